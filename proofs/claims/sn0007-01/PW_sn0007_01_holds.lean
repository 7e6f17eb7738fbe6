import PyProof.Rows.All
import Wide.All
import OpenK.AllK
import Wide.FinOn
import PyProof.StrLawsJoin
import Lean
import PySem.Challenge.RW_sn0007_01
set_option Elab.async false
section
open PySem PySem.W PySem.Calls PyProof.Rows
set_option Elab.async false
namespace Mine

theorem bad {α : Type} {x : α} {C : Prop} (h : none = some x) : C := nomatch h
noncomputable def gd {α : Type} (o : Option α) (f : α → Bool) : Bool := match o with | some x => f x | none => false
theorem gd_ok {α : Type} {o : Option α} {f : α → Bool} (h : gd o f = true) : ∃ x, o = some x ∧ f x = true := by
  cases o with
  | none => exact Bool.noConfusion h
  | some x => exact ⟨x, rfl, h⟩
theorem bd_ok {α β : Type} {o : Option α} {f : α → Option β} {b : β} (h : o.bind f = some b) : ∃ x, o = some x ∧ f x = some b := by
  cases o with
  | none => exact bad h
  | some x => exact ⟨x, rfl, h⟩
theorem mp_ok {α β : Type} {o : Option α} {f : α → β} {b : β} (h : o.map f = some b) : ∃ x, o = some x ∧ f x = b := by
  cases o with
  | none => exact bad h
  | some x => exact ⟨x, rfl, Option.some.inj h⟩
/-- the first that is there -/
noncomputable def orP {α : Type} (a b : Option α) : Option α := match a with | some x => some x | none => b
theorem orP_ok {α : Type} {a b : Option α} {x : α} (h : orP a b = some x) : a = some x ∨ b = some x := by
  cases a with
  | none => exact .inr h
  | some y => exact .inl h
theorem if_ok {p : Prop} [Decidable p] {α : Type} {o : Option α} {b : α} (h : (if p then o else none) = some b) : p ∧ o = some b := by
  by_cases hp : p
  · rw [if_pos hp] at h; exact ⟨hp, h⟩
  · rw [if_neg hp] at h; exact bad h
theorem ifn_ok {p : Prop} [Decidable p] {α : Type} {o : Option α} {b : α} (h : (if p then none else o) = some b) : ¬ p ∧ o = some b := by
  by_cases hp : p
  · rw [if_pos hp] at h; exact bad h
  · rw [if_neg hp] at h; exact ⟨hp, h⟩
theorem an2 {a b : Bool} (h : (a && b) = true) : a = true ∧ b = true := by
  cases a with
  | false => exact Bool.noConfusion h
  | true => exact ⟨rfl, h⟩
theorem an3 {a b c : Bool} (h : (a && b && c) = true) : a = true ∧ b = true ∧ c = true := ⟨(an2 (an2 h).1).1, (an2 (an2 h).1).2, (an2 h).2⟩
theorem an4 {a b c d : Bool} (h : (a && b && c && d) = true) : a = true ∧ b = true ∧ c = true ∧ d = true := ⟨(an2 (an3 h).1).1, (an2 (an3 h).1).2, (an3 h).2⟩
theorem an5 {a b c d e : Bool} (h : (a && b && c && d && e) = true) : a = true ∧ b = true ∧ c = true ∧ d = true ∧ e = true := ⟨(an2 (an4 h).1).1, (an2 (an4 h).1).2, (an4 h).2⟩
theorem an6 {a b c d e f : Bool} (h : (a && b && c && d && e && f) = true) : a = true ∧ b = true ∧ c = true ∧ d = true ∧ e = true ∧ f = true := ⟨(an2 (an5 h).1).1, (an2 (an5 h).1).2, (an5 h).2⟩
theorem an7 {a b c d e f x : Bool} (h : (a && b && c && d && e && f && x) = true) : a = true ∧ b = true ∧ c = true ∧ d = true ∧ e = true ∧ f = true ∧ x = true := ⟨(an2 (an6 h).1).1, (an2 (an6 h).1).2, (an6 h).2⟩
noncomputable def un1 {α : Type} (l : List α) : Option α := match l with | [a] => some a | _ => none
theorem un1_ok {α : Type} {l : List α} {a : α} (h : un1 l = some a) : l = [a] := by
  cases l with
  | nil => exact bad h
  | cons b r =>
    cases r with
    | nil => exact congrArg (fun x => [x]) (Option.some.inj h)
    | cons => exact bad h
noncomputable def un2 {α : Type} (l : List α) : Option (α × α) := match l with | [a, b] => some (a, b) | _ => none
theorem un2_ok {α : Type} {l : List α} {a : α × α} (h : un2 l = some a) : l = [a.1, a.2] := by
  cases l with
  | nil => exact bad h
  | cons b r =>
    cases r with
    | nil => exact bad h
    | cons c r =>
      cases r with
      | nil => exact congrArg (fun x : α × α => [x.1, x.2]) (Option.some.inj h)
      | cons => exact bad h
noncomputable def un3 {α : Type} (l : List α) : Option (α × α × α) := match l with | a :: r => (un2 r).map fun q => (a, q) | _ => none
theorem un3_ok {α : Type} {l : List α} {a : α × α × α} (h : un3 l = some a) : l = [a.1, a.2.1, a.2.2] := by
  cases l with
  | nil => exact bad h
  | cons b r =>
    obtain ⟨q, h1, h2⟩ := mp_ok h
    cases h2
    rw [un2_ok h1]

/-- values: data as trees; `ref` an object that may still change -/
inductive D where
  | none
  | bool (b : Bool)
  | int (i : Int)
  | flt (b : UInt64)
  | str (x : Str)
  | tup (l : List D)
  | lst (l : List D)
  | rng (a b c : Int)
  | ref (i : Nat)
  deriving Inhabited

/-- an object that may change: a list, or an accumulator -/
inductive MO where
  | ml (l : List D)
  | acc (l : List D)
  deriving Inhabited
noncomputable abbrev Store := List MO
noncomputable abbrev Vars := List (Nat × D)

noncomputable def Vars.get : Vars → Nat → Option D
  | [], _ => .none
  | (j, d) :: r, i => match Nat.beq j i with | true => some d | false => Vars.get r i
noncomputable def Vars.set : Vars → Nat → D → Vars
  | [], i, d => [(i, d)]
  | (j, e) :: r, i, d => match Nat.beq j i with | true => (i, d) :: r | false => (j, e) :: Vars.set r i d

noncomputable def dB (x : D) : Option (Bool) := D.casesOn (motive_1 := fun _ => Option (Bool)) x .none some (fun _ => .none) (fun _ => .none) (fun _ => .none) (fun _ => .none) (fun _ => .none) (fun _ _ _ => .none) (fun _ => .none)
theorem dB_ok {x : D} {a : Bool} : dB x = some a → x = .bool a := D.casesOn (motive_1 := fun x => dB x = some a → x = .bool a) x (fun  h => bad h) (fun _ h => congrArg D.bool (Option.some.inj h)) (fun _ h => bad h) (fun _ h => bad h) (fun _ h => bad h) (fun _ h => bad h) (fun _ h => bad h) (fun _ _ _ h => bad h) (fun _ h => bad h)
noncomputable def dI (x : D) : Option (Int) := D.casesOn (motive_1 := fun _ => Option (Int)) x .none (fun _ => .none) some (fun _ => .none) (fun _ => .none) (fun _ => .none) (fun _ => .none) (fun _ _ _ => .none) (fun _ => .none)
theorem dI_ok {x : D} {a : Int} : dI x = some a → x = .int a := D.casesOn (motive_1 := fun x => dI x = some a → x = .int a) x (fun  h => bad h) (fun _ h => bad h) (fun _ h => congrArg D.int (Option.some.inj h)) (fun _ h => bad h) (fun _ h => bad h) (fun _ h => bad h) (fun _ h => bad h) (fun _ _ _ h => bad h) (fun _ h => bad h)
noncomputable def dF (x : D) : Option (UInt64) := D.casesOn (motive_1 := fun _ => Option (UInt64)) x .none (fun _ => .none) (fun _ => .none) some (fun _ => .none) (fun _ => .none) (fun _ => .none) (fun _ _ _ => .none) (fun _ => .none)
theorem dF_ok {x : D} {a : UInt64} : dF x = some a → x = .flt a := D.casesOn (motive_1 := fun x => dF x = some a → x = .flt a) x (fun  h => bad h) (fun _ h => bad h) (fun _ h => bad h) (fun _ h => congrArg D.flt (Option.some.inj h)) (fun _ h => bad h) (fun _ h => bad h) (fun _ h => bad h) (fun _ _ _ h => bad h) (fun _ h => bad h)
noncomputable def dS (x : D) : Option (Str) := D.casesOn (motive_1 := fun _ => Option (Str)) x .none (fun _ => .none) (fun _ => .none) (fun _ => .none) some (fun _ => .none) (fun _ => .none) (fun _ _ _ => .none) (fun _ => .none)
theorem dS_ok {x : D} {a : Str} : dS x = some a → x = .str a := D.casesOn (motive_1 := fun x => dS x = some a → x = .str a) x (fun  h => bad h) (fun _ h => bad h) (fun _ h => bad h) (fun _ h => bad h) (fun _ h => congrArg D.str (Option.some.inj h)) (fun _ h => bad h) (fun _ h => bad h) (fun _ _ _ h => bad h) (fun _ h => bad h)
noncomputable def dT (x : D) : Option (List D) := D.casesOn (motive_1 := fun _ => Option (List D)) x .none (fun _ => .none) (fun _ => .none) (fun _ => .none) (fun _ => .none) some (fun _ => .none) (fun _ _ _ => .none) (fun _ => .none)
theorem dT_ok {x : D} {a : List D} : dT x = some a → x = .tup a := D.casesOn (motive_1 := fun x => dT x = some a → x = .tup a) x (fun  h => bad h) (fun _ h => bad h) (fun _ h => bad h) (fun _ h => bad h) (fun _ h => bad h) (fun _ h => congrArg D.tup (Option.some.inj h)) (fun _ h => bad h) (fun _ _ _ h => bad h) (fun _ h => bad h)
noncomputable def dL (x : D) : Option (List D) := D.casesOn (motive_1 := fun _ => Option (List D)) x .none (fun _ => .none) (fun _ => .none) (fun _ => .none) (fun _ => .none) (fun _ => .none) some (fun _ _ _ => .none) (fun _ => .none)
theorem dL_ok {x : D} {a : List D} : dL x = some a → x = .lst a := D.casesOn (motive_1 := fun x => dL x = some a → x = .lst a) x (fun  h => bad h) (fun _ h => bad h) (fun _ h => bad h) (fun _ h => bad h) (fun _ h => bad h) (fun _ h => bad h) (fun _ h => congrArg D.lst (Option.some.inj h)) (fun _ _ _ h => bad h) (fun _ h => bad h)
noncomputable def dR (x : D) : Option (Nat) := D.casesOn (motive_1 := fun _ => Option (Nat)) x .none (fun _ => .none) (fun _ => .none) (fun _ => .none) (fun _ => .none) (fun _ => .none) (fun _ => .none) (fun _ _ _ => .none) some
theorem dR_ok {x : D} {a : Nat} : dR x = some a → x = .ref a := D.casesOn (motive_1 := fun x => dR x = some a → x = .ref a) x (fun  h => bad h) (fun _ h => bad h) (fun _ h => bad h) (fun _ h => bad h) (fun _ h => bad h) (fun _ h => bad h) (fun _ h => bad h) (fun _ _ _ h => bad h) (fun _ h => congrArg D.ref (Option.some.inj h))
noncomputable def dMl (m : MO) : Option (List D) := match m with | .ml l => some l | .acc _ => none
theorem dMl_ok {m : MO} {l} (h : dMl m = some l) : m = .ml l := by
  cases m with
  | ml => exact congrArg MO.ml (Option.some.inj h)
  | acc => exact bad h
noncomputable def dAcc (m : MO) : Option (List D) := match m with | .acc l => some l | .ml _ => none
theorem dAcc_ok {m : MO} {l} (h : dAcc m = some l) : m = .acc l := by
  cases m with
  | acc => exact congrArg MO.acc (Option.some.inj h)
  | ml => exact bad h
noncomputable def getMl (st : Store) (d : D) : Option (Nat × List D) := (dR d).bind fun i => (st[i]?).bind fun m => (dMl m).map fun l => (i, l)
theorem getMl_ok {st : Store} {d : D} {q} (h : getMl st d = some q) : d = .ref q.1 ∧ st[q.1]? = some (.ml q.2) := by
  obtain ⟨i, h1, h⟩ := bd_ok h
  obtain ⟨m, h2, h⟩ := bd_ok h
  obtain ⟨l, h3, h⟩ := mp_ok h
  cases h
  exact ⟨dR_ok h1, h2.trans (congrArg some (dMl_ok h3))⟩
noncomputable def getAcc (st : Store) (d : D) : Option (Nat × List D) := (dR d).bind fun i => (st[i]?).bind fun m => (dAcc m).map fun l => (i, l)
theorem getAcc_ok {st : Store} {d : D} {q} (h : getAcc st d = some q) : d = .ref q.1 ∧ st[q.1]? = some (.acc q.2) := by
  obtain ⟨i, h1, h⟩ := bd_ok h
  obtain ⟨m, h2, h⟩ := bd_ok h
  obtain ⟨l, h3, h⟩ := mp_ok h
  cases h
  exact ⟨dR_ok h1, h2.trans (congrArg some (dAcc_ok h3))⟩
mutual
noncomputable def D.refsLt (n : Nat) : D → Bool
  | .tup l => D.refsLts n l
  | .lst l => D.refsLts n l
  | .ref i => Nat.blt i n
  | _ => true
noncomputable def D.refsLts (n : Nat) : List D → Bool
  | [] => true
  | d :: r => D.refsLt n d && D.refsLts n r
end

/-- built-in functions -/
inductive Fn where
  | len | minL | maxL | max3 | min3 | min2 | max2 | intF | sumL | range1
  deriving DecidableEq
/-- methods of built-in values -/
inductive Me where
  | count | index | join | split
  deriving DecidableEq

inductive PE where
  | lit (d : D)
  | var (i : Nat)
  | bin (op : Operator) (a b : PE)
  | neg (a : PE)
  | cmp1 (op : CmpOp) (a b : PE)
  | cmp2 (o₁ o₂ : CmpOp) (a b c : PE)
  | band (l : List PE)
  | bor (l : List PE)
  | bnot (a : PE)
  | ite (c a b : PE)
  | idx (a i : PE)
  | slc (a : PE) (lo hi : Option PE)
  | tup (l : List PE)
  | lst (l : List PE)
  | comp (e : PE) (x : Nat) (it : PE) (c : Option PE)
  | fn (f : Fn) (l : List PE)
  | me (m : Me) (o : PE) (l : List PE)
  | sub (k : Nat) (r s : PE)
  | call (f : Nat) (l : List PE)
  | acc0
  | meth (f : Nat) (o : PE) (l : List PE)
  | accAppend (o a : PE)
  | accPop (o : PE)
  | accLen (o : PE)
inductive PS where
  | asg (i : Nat) (e : PE)
  | asgM (i : Nat) (e : PE)
  | asgT (is : List Nat) (e : PE)
  | seti (i : Nat) (k e : PE)
  | ifs (c : PE) (a b : List PS)
  | for1 (i : Nat) (it : PE) (b : List PS)
  | ret (e : PE)
  | ex (e : PE)

structure PF where
  params : List Nat
  body : List PS

noncomputable def asList (st : Store) (d : D) : Option (List D) := orP (dL d) ((getMl st d).map (·.2))
noncomputable def lid : Nat := 1048576
noncomputable def rngItems (a b c : Int) : Option (List D) := if c = 1 ∧ Builtin.Range.small a b c = true then some ((List.range (Builtin.Range.rangeSize a b c).toNat).map fun i => .int (a + (i : Nat) * c)) else .none
noncomputable def items (d : D) : Option (List D) := D.casesOn (motive_1 := fun _ => Option (List D)) d .none (fun _ => .none) (fun _ => .none) (fun _ => .none) (fun x => some (x.cps.toList.map fun c => .str ⟨#[c]⟩)) some some rngItems (fun _ => .none)

noncomputable def two {α β γ : Type} (p : D → Option α) (q : D → Option β) (f : α → β → Option γ) (x y : D) : Option γ := (p x).bind fun a => (q y).bind fun b => f a b
theorem two_ok {α β γ : Type} {p : D → Option α} {q : D → Option β} {f : α → β → Option γ} {x y : D} {d : γ} (h : two p q f x y = some d) : ∃ a b, p x = some a ∧ q y = some b ∧ f a b = some d := by
  obtain ⟨a, h1, h⟩ := bd_ok h
  obtain ⟨b, h2, h⟩ := bd_ok h
  exact ⟨a, b, h1, h2, h⟩
noncomputable def addP (x y : D) : Option D := orP (two dI dI (fun a b => some (.int (a + b))) x y) (orP (two dF dF (fun a b => some (.flt (Float64.add a b))) x y)
  (two dS dS (fun a b => if a.length + b.length ≤ lid then some (.str (a ++ b)) else .none) x y))
noncomputable def sbP (x y : D) : Option D := orP (two dI dI (fun a b => some (.int (a - b))) x y) (two dF dF (fun a b => some (.flt (Float64.sub a b))) x y)
noncomputable def mulP (x y : D) : Option D := orP (two dI dI (fun a b => if a.natAbs < 2 ^ 60 ∧ b.natAbs < 2 ^ 60 then some (.int (a * b)) else .none) x y)
  (orP (two dF dI (fun a b => if Float64.isInf (Float64.ofInt b) = true then .none else some (.flt (Float64.mul a (Float64.ofInt b)))) x y)
  (two dS dI (fun a n => if a.length ≤ 16 ∧ n.natAbs ≤ lid then some (.str (Txt.mul a n)) else .none) x y))
noncomputable def divP (x y : D) : Option D := orP (two dF dF (fun a b => if Float64.isZero b = true then .none else some (.flt (Float64.div a b))) x y)
  (two dI dF (fun a b => if Float64.isInf (Float64.ofInt a) = true then .none else if Float64.isZero b = true then .none else some (.flt (Float64.div (Float64.ofInt a) b))) x y)
noncomputable def fdvP (x y : D) : Option D := two dI dI (fun a b => if b = 0 ∨ ¬ b.natAbs < 1073741824 then .none else some (.int (a.fdiv b))) x y
noncomputable def modP (x y : D) : Option D := orP (two dI dI (fun a b => if b = 0 then .none else some (.int (a.fmod b))) x y) (two dF dF (fun a b => if Float64.isZero b = true then .none else some (.flt (Float64.divmod a b).2)) x y)
noncomputable def powP (x y : D) : Option D := two dI dI (fun a b => if 0 ≤ b ∧ b ≤ 64 ∧ a.natAbs < 2 ^ 20 then some (.int (a ^ b.toNat)) else .none) x y
noncomputable def binP (op : Operator) (x y : D) : Option D := match op with
  | .Add => addP x y
  | .Sub => sbP x y
  | .Mult => mulP x y
  | .Div => divP x y
  | .FloorDiv => fdvP x y
  | .Mod => modP x y
  | .Pow => powP x y
  | .MatMult => .none
  | .LShift => .none
  | .RShift => .none
  | .BitOr => .none
  | .BitXor => .none
  | .BitAnd => .none

noncomputable def intsOf : List D → Option (List Int)
  | [] => some []
  | d :: r => (dI d).bind fun i => (intsOf r).map (i :: ·)
noncomputable def strsOf : List D → Option (List Str)
  | [] => some []
  | d :: r => (dS d).bind fun i => (strsOf r).map (i :: ·)

mutual
noncomputable def D.py : D → PyData
  | .none => .none
  | .bool _ => .none
  | .int i => .int i
  | .flt _ => .none
  | .str x => .str x
  | .tup l => .tuple (D.pys l)
  | .lst l => .list (D.pys l)
  | .rng _ _ _ => .none
  | .ref _ => .none
noncomputable def D.pys : List D → List PyData
  | [] => []
  | d :: r => D.py d :: D.pys r
end
mutual
/-- plain data -/
noncomputable def D.pl : D → Bool
  | .none => true
  | .bool _ => false
  | .int _ => true
  | .flt _ => false
  | .str _ => true
  | .tup l => D.pls l
  | .lst l => D.pls l
  | .rng _ _ _ => false
  | .ref _ => false
noncomputable def D.pls : List D → Bool
  | [] => true
  | d :: r => D.pl d && D.pls r
end
/-- what == may be asked of -/
noncomputable def eqOk (d : D) : Bool := D.pl d && SeqAt.shaped (D.py d)
noncomputable def seqEq (x y : D) : Option Bool := match eqOk x && eqOk y with | true => some (PyData.eqv (D.py x) (D.py y)) | false => .none
noncomputable def eqP (x y : D) : Option Bool := orP (two dI dI (fun a b => some (a == b)) x y) (orP (two dS dS (fun a b => some (a == b)) x y) (orP (two dF dF (fun a b => some (Float64.cmp a b == some Ordering.eq)) x y) (seqEq x y)))
noncomputable def neP (x y : D) : Option Bool := orP (two dI dI (fun a b => some (a != b)) x y) (orP (two dS dS (fun a b => some (a != b)) x y) (orP (two dB dB (fun a b => some (a != b)) x y)
  (orP (two dF dF (fun a b => some (Float64.cmp a b != some Ordering.eq)) x y) ((seqEq x y).map (!·)))))
noncomputable def ltP (x y : D) : Option Bool := orP (two dI dI (fun a b => some (decide (a < b))) x y) (two dF dF (fun a b => some (Float64.cmp a b == some Ordering.lt)) x y)
noncomputable def leP (x y : D) : Option Bool := orP (two dI dI (fun a b => some (decide (a ≤ b))) x y) (two dF dF (fun a b => some (Float64.cmp a b == some Ordering.lt || Float64.cmp a b == some Ordering.eq)) x y)
noncomputable def gtP (x y : D) : Option Bool := two dI dI (fun a b => some (decide (a > b))) x y
noncomputable def geP (x y : D) : Option Bool := two dI dI (fun a b => some (decide (a ≥ b))) x y
noncomputable def cmpP (_st : Store) (op : CmpOp) (x y : D) : Option Bool := match op with
  | .Eq => eqP x y
  | .NotEq => neP x y
  | .Lt => ltP x y
  | .LtE => leP x y
  | .Gt => gtP x y
  | .GtE => geP x y
  | .Is => .none
  | .IsNot => .none
  | .In => .none
  | .NotIn => .none

noncomputable def okIdx (i : Int) : Bool := decide (0 ≤ i) && decide (i.natAbs ≤ lid)
noncomputable def idxP (st : Store) (o k : D) : Option D := (dI k).bind fun i =>
  orP ((dS o).bind fun x => if i.natAbs ≤ lid then ((seqIndex? i x.length).bind (x.cps[·]?)).map fun c => .str ⟨#[c]⟩ else .none)
  (if okIdx i = true then (orP (dT o) (asList st o)).bind fun l => l[i.toNat]? else .none)

noncomputable def partI (o : Option D) : Option (Option Int) := match o with | .none => some .none | some d => (dI d).map some
noncomputable def slcP (o : D) (lo hi : Option D) : Option D :=
  orP ((dS o).bind fun x => if x.length ≤ lid then (partI lo).bind fun a => (partI hi).bind fun b => some (.str (Txt.slice x a b)) else .none)
  ((dL o).bind fun l => if lo.isNone = true then (hi.bind dI).bind fun i => if 0 ≤ i ∧ i.toNat ≤ l.length ∧ l.length ≤ lid then some (.lst (l.take i.toNat)) else .none else .none)

end Mine
end
section
open PySem PySem.W PySem.Calls PyProof.Rows
set_option Elab.async false
namespace Mine

noncomputable def flt (a b : UInt64) : Bool := Float64.cmp a b == some .lt

/-- new lines: every one of the three kinds becomes r -/
noncomputable def crlf (r : List Nat) : List Nat → List Nat
  | [] => []
  | 13 :: 10 :: t => r ++ crlf r t
  | 10 :: t => r ++ crlf r t
  | 13 :: t => r ++ crlf r t
  | c :: t => c :: crlf r t
/-- a dot at a line's head becomes r -/
noncomputable def dotq (r : List Nat) : Bool → List Nat → List Nat
  | _, [] => []
  | b, c :: t => if b && Nat.beq c 46 then r ++ dotq r false t else c :: dotq r (Nat.beq c 10) t

noncomputable def subP (k : Nat) (r x : Str) : Option D :=
  if x.length ≤ 4096 ∧ r.length ≤ 16 ∧ r.cps.contains 92 = false then
    some (.str (if k = 1 then ⟨(dotq r.cps.toList true x.cps.toList).toArray⟩ else ⟨(crlf r.cps.toList x.cps.toList).toArray⟩))
  else .none

noncomputable def leP' (n : Nat) (d : D) : Option D := match Nat.ble n lid with | true => some d | false => .none
theorem leP_ok {n : Nat} {d e : D} (h : leP' n d = some e) : n ≤ lid ∧ d = e := by
  unfold leP' at h
  cases hb : Nat.ble n lid with
  | false => rw [hb] at h; exact bad h
  | true => rw [hb] at h; exact ⟨Nat.le_of_ble_eq_true hb, Option.some.inj h⟩
noncomputable def lenF (st : Store) (d : D) : Option D := orP ((dS d).bind fun x => leP' x.length (.int x.length)) ((asList st d).bind fun l => leP' l.length (.int l.length))
noncomputable def maxF (a b e : UInt64) : UInt64 := if flt (if flt a b = true then b else a) e = true then e else if flt a b = true then b else a
noncomputable def minF (a b e : UInt64) : UInt64 := if flt e (if flt b a = true then b else a) = true then e else if flt b a = true then b else a
noncomputable def fl3 (f : UInt64 → UInt64 → UInt64 → UInt64) (q : D × D × D) : Option D := (dF q.1).bind fun a => (dF q.2.1).bind fun b => (dF q.2.2).map fun e => .flt (f a b e)
noncomputable def fnP (st : Store) (f : Fn) (l : List D) : Option D := match f with
  | .len => (un1 l).bind (lenF st)
  | .minL => (un1 l).bind fun d => (asList st d).bind fun l => (intsOf l).bind fun x => x.min?.map .int
  | .maxL => (un1 l).bind fun d => (asList st d).bind fun l => (intsOf l).bind fun x => x.max?.map .int
  | .min2 => (un2 l).bind fun q => two dI dI (fun a b => some (.int (if b < a then b else a))) q.1 q.2
  | .max2 => (un2 l).bind fun q => two dI dI (fun a b => some (.int (if a < b then b else a))) q.1 q.2
  | .max3 => (un3 l).bind (fl3 maxF)
  | .min3 => (un3 l).bind (fl3 minF)
  | .intF => (un1 l).bind fun d => (dF d).bind fun x => match Float64.decode x with | .fin sg m e => some (.int (Float64.truncOf sg m e)) | _ => .none
  | .sumL => (un1 l).bind fun d => (asList st d).bind fun l => (intsOf l).map fun x => .int x.sum
  | .range1 => (un1 l).bind fun d => (dI d).bind fun n => leP' n.natAbs (.rng 0 n 1)

noncomputable def meQ (st : Store) (m : Me) (x : Str) (d : D) : Option D := match m with
  | .count => (dS d).map fun y => .int (Txt.count x y)
  | .index => (dS d).bind fun y => if Txt.contains x y = true then some (.int (Txt.find x y)) else .none
  | .join => (asList st d).bind fun l => (strsOf l).bind fun t => if JoinOk x t = true then some (.str (Txt.join x t)) else .none
  | .split => (dS d).bind fun y => if y.length ≠ 0 ∧ x.length + 2 ≤ lid then some (.lst ((Txt.split x y).map .str)) else .none
noncomputable def meP (st : Store) (m : Me) (o : D) (l : List D) : Option D := (dS o).bind fun x => (un1 l).bind fun d => meQ st m x d

noncomputable def isNo (d : D) : Bool := D.casesOn (motive_1 := fun _ => Bool) d true (fun _ => false) (fun _ => false) (fun _ => false) (fun _ => false) (fun _ => false) (fun _ => false) (fun _ _ _ => false) (fun _ => false)
theorem isNo_ok {d : D} : isNo d = true → d = .none := D.casesOn (motive_1 := fun d => isNo d = true → d = .none) d (fun _ => rfl) (fun _ h => Bool.noConfusion h) (fun _ h => Bool.noConfusion h) (fun _ h => Bool.noConfusion h) (fun _ h => Bool.noConfusion h) (fun _ h => Bool.noConfusion h) (fun _ h => Bool.noConfusion h) (fun _ _ _ h => Bool.noConfusion h) (fun _ h => Bool.noConfusion h)

inductive Fl where
  | next
  | ret (d : D)

noncomputable def bindOne (x : Nat) (σ : Vars) (d : D) : Vars := σ.set x d

/-- the turns of a comprehension -/
noncomputable def compGo (test : Vars → Store → Option (Bool × Store)) (elt : Vars → Store → Option (D × Store)) (x : Nat) (σ : Vars) : List D → Store → List D → Option (List D × Store)
  | [], st, acc => some (acc, st)
  | d :: ds, st, acc => (test (σ.set x d) st).bind fun r => match r.1 with
    | true => (elt (σ.set x d) r.2).bind fun y => compGo test elt x σ ds y.2 (acc ++ [y.1])
    | false => compGo test elt x σ ds r.2 acc

noncomputable def forGo (body : Vars → Store → Option (Fl × Vars × Store)) (x : Nat) : List D → Vars → Store → Option (Fl × Vars × Store)
  | [], σ, st => some (.next, σ, st)
  | d :: ds, σ, st => (body (σ.set x d) st).bind fun r => match r.1 with
    | .next => forGo body x ds r.2.1 r.2.2
    | .ret v => some (.ret v, r.2.1, r.2.2)

noncomputable def setAll : List Nat → List D → Vars → Option Vars
  | [], ds, σ => (match ds with | [] => some σ | _ :: _ => .none)
  | i :: is, ds, σ => (match ds with | d :: ds => setAll is ds (σ.set i d) | [] => .none)

variable (F : Nat → Option PF)
mutual
noncomputable def ev : Nat → Vars → Store → PE → Option (D × Store)
  | 0, _, _, _ => .none
  | n + 1, σ, st, e => match e with
    | .lit d => some (d, st)
    | .var i => (σ.get i).map fun d => (d, st)
    | .bin op a b => (ev n σ st a).bind fun x => (ev n σ x.2 b).bind fun y => (binP op x.1 y.1).map fun d => (d, y.2)
    | .neg a => (ev n σ st a).bind fun x => (dI x.1).map fun i => (.int (-i), x.2)
    | .cmp1 op a b => (ev n σ st a).bind fun x => (ev n σ x.2 b).bind fun y => (cmpP y.2 op x.1 y.1).map fun d => (.bool d, y.2)
    | .ite c a b => (evT n σ st c).bind fun r => match r.1 with | true => ev n σ r.2 a | false => ev n σ r.2 b
    | .idx a i => (ev n σ st a).bind fun x => (ev n σ x.2 i).bind fun y => (idxP y.2 x.1 y.1).map fun d => (d, y.2)
    | .slc a lo hi => (ev n σ st a).bind fun x => (evO n σ x.2 lo).bind fun y => (evO n σ y.2 hi).bind fun z => (slcP x.1 y.1 z.1).map fun d => (d, z.2)
    | .tup l => (evs n σ st l).map fun r => (.tup r.1, r.2)
    | .lst l => (evs n σ st l).map fun r => (.lst r.1, r.2)
    | .comp e x it c => (ev n σ st it).bind fun r => (items r.1).bind fun ds => match Nat.ble ds.length lid with
        | true => (compGo (fun σ st => match c with | some c => evT n σ st c | .none => some (true, st)) (fun σ st => ev n σ st e) x σ ds r.2 []).map fun q => (.lst q.1, q.2)
        | false => .none
    | .fn f l => (evs n σ st l).bind fun r => (fnP r.2 f r.1).map fun d => (d, r.2)
    | .me m o l => (ev n σ st o).bind fun x => (evs n σ x.2 l).bind fun r => (meP r.2 m x.1 r.1).map fun d => (d, r.2)
    | .sub k a b => (ev n σ st a).bind fun x => (ev n σ x.2 b).bind fun y => (two dS dS (subP k) x.1 y.1).map fun d => (d, y.2)
    | .call f l => (evs n σ st l).bind fun r => callF n f r.1 r.2
    | .acc0 => some (.ref st.length, st ++ [.acc []])
    | .meth f o l => (ev n σ st o).bind fun x => (getAcc x.2 x.1).bind fun q => (evs n σ x.2 l).bind fun r => callF n f (.ref q.1 :: r.1) r.2
    | .accAppend o a => (ev n σ st o).bind fun x => (getAcc x.2 x.1).bind fun q => (ev n σ x.2 a).bind fun y => (getAcc y.2 (.ref q.1)).bind fun p =>
        if p.2.length ≤ lid then some (.none, y.2.set q.1 (.acc (p.2 ++ [y.1]))) else .none
    | .accPop o => (ev n σ st o).bind fun x => (getAcc x.2 x.1).bind fun q => if q.2.length ≤ lid then (match q.2.getLast? with | some d => some (d, x.2.set q.1 (.acc q.2.dropLast)) | .none => some (.tup [.str ⟨#[]⟩, .str ⟨#[]⟩], x.2)) else .none
    | .accLen o => (ev n σ st o).bind fun x => (getAcc x.2 x.1).bind fun q => if q.2.length ≤ lid then some (.int q.2.length, x.2) else .none
    | .cmp2 _ _ _ _ _ => .none
    | .band _ => .none
    | .bor _ => .none
    | .bnot _ => .none
noncomputable def evO : Nat → Vars → Store → Option PE → Option (Option D × Store)
  | 0, _, _, _ => .none
  | n + 1, σ, st, e => match e with
    | .none => some (.none, st)
    | some e => (ev n σ st e).map fun x => (some x.1, x.2)
noncomputable def evs : Nat → Vars → Store → List PE → Option (List D × Store)
  | 0, _, _, _ => .none
  | n + 1, σ, st, l => match l with
    | [] => some ([], st)
    | e :: r => (ev n σ st e).bind fun x => (evs n σ x.2 r).map fun y => (x.1 :: y.1, y.2)
noncomputable def evT : Nat → Vars → Store → PE → Option (Bool × Store)
  | 0, _, _, _ => .none
  | n + 1, σ, st, e => match e with
    | .bnot a => (evT n σ st a).map fun r => (!r.1, r.2)
    | .band l => evAnd n σ st l
    | .bor l => evOr n σ st l
    | .cmp1 op a b => (ev n σ st a).bind fun x => (ev n σ x.2 b).bind fun y => (cmpP y.2 op x.1 y.1).map fun d => (d, y.2)
    | .cmp2 o₁ o₂ a b c => (ev n σ st a).bind fun x => (ev n σ x.2 b).bind fun y => (cmpP y.2 o₁ x.1 y.1).bind fun d => match d with
        | true => (ev n σ y.2 c).bind fun z => (cmpP z.2 o₂ y.1 z.1).map fun d => (d, z.2)
        | false => some (false, y.2)
    | .var i => ((σ.get i).bind dB).map fun b => (b, st)
    | .bin op a b => (ev n σ st (.bin op a b)).bind fun x => (dI x.1).map fun i => (i != 0, x.2)
    | .lit _ => .none
    | .neg _ => .none
    | .ite _ _ _ => .none
    | .idx _ _ => .none
    | .slc _ _ _ => .none
    | .tup _ => .none
    | .lst _ => .none
    | .comp _ _ _ _ => .none
    | .fn _ _ => .none
    | .me _ _ _ => .none
    | .sub _ _ _ => .none
    | .call _ _ => .none
    | .acc0 => .none
    | .meth _ _ _ => .none
    | .accAppend _ _ => .none
    | .accPop _ => .none
    | .accLen _ => .none
noncomputable def evAnd : Nat → Vars → Store → List PE → Option (Bool × Store)
  | 0, _, _, _ => .none
  | n + 1, σ, st, l => match l with
    | [] => some (true, st)
    | e :: r => (evT n σ st e).bind fun x => match x.1 with | true => evAnd n σ x.2 r | false => some (false, x.2)
noncomputable def evOr : Nat → Vars → Store → List PE → Option (Bool × Store)
  | 0, _, _, _ => .none
  | n + 1, σ, st, l => match l with
    | [] => some (false, st)
    | e :: r => (evT n σ st e).bind fun x => match x.1 with | true => some (true, x.2) | false => evOr n σ x.2 r
noncomputable def callF : Nat → Nat → List D → Store → Option (D × Store)
  | 0, _, _, _ => .none
  | n + 1, f, ds, st => match F f with
    | some pf => (setAll pf.params ds []).bind fun σ => match D.refsLts 0 ds with
      | true => (run n σ [] pf.body).bind fun r => match r.1 with
        | .ret d => if D.refsLt 0 d = true then some (d, st) else .none
        | .next => some (.none, st)
      | false => (run n σ st pf.body).map fun r => match r.1 with
        | .ret d => (d, r.2.2)
        | .next => (.none, r.2.2)
    | .none => .none
noncomputable def run : Nat → Vars → Store → List PS → Option (Fl × Vars × Store)
  | 0, _, _, _ => .none
  | n + 1, σ, st, l => match l with
    | [] => some (.next, σ, st)
    | s :: r => (exec1 n σ st s).bind fun q => match q.1 with
      | .next => run n q.2.1 q.2.2 r
      | .ret d => some (.ret d, q.2.1, q.2.2)
noncomputable def exec1 : Nat → Vars → Store → PS → Option (Fl × Vars × Store)
  | 0, _, _, _ => .none
  | n + 1, σ, st, s => match s with
    | .asg i e => (ev n σ st e).map fun x => (.next, σ.set i x.1, x.2)
    | .asgM i e => (ev n σ st e).bind fun x => (dL x.1).map fun l => (.next, σ.set i (.ref x.2.length), x.2 ++ [.ml l])
    | .asgT is e => (ev n σ st e).bind fun x => (dT x.1).bind fun l => (setAll is l σ).map fun σ' => (.next, σ', x.2)
    | .seti i k e => (ev n σ st e).bind fun x => (ev n σ x.2 k).bind fun y => (σ.get i).bind fun o => (getMl y.2 o).bind fun q => (dI y.1).bind fun j =>
        if 0 ≤ j ∧ j.natAbs ≤ lid ∧ j.toNat < q.2.length then some (.next, σ, y.2.set q.1 (.ml (q.2.set j.toNat x.1))) else .none
    | .ifs c a b => (evT n σ st c).bind fun r => match r.1 with | true => run n σ r.2 a | false => run n σ r.2 b
    | .for1 i it b => (ev n σ st it).bind fun r => (items r.1).bind fun ds => forGo (fun σ st => run n σ st b) i ds σ r.2
    | .ret e => (ev n σ st e).map fun x => (.ret x.1, σ, x.2)
    | .ex e => (ev n σ st e).bind fun x => match isNo x.1 with | true => some (.next, σ, x.2) | false => .none
end

end Mine
end
section
open PySem PySem.W PySem.Calls PyProof.Rows
set_option Elab.async false
namespace Mine

noncomputable abbrev tupObj (vs : List Value) (n : Nat) : Obj := { cls := .type "tuple", data := .seq vs.toArray n }
noncomputable abbrev lstObj (vs : List Value) (n : Nat) : Obj := { cls := .type "list", data := .seq vs.toArray n }

mutual
inductive Lay (P : Addr → Obj → Prop) (ρ : List Addr) : Value → D → Prop
  | none : Lay P ρ Value.none D.none
  | bool (b : Bool) : Lay P ρ (Value.bool b) (D.bool b)
  | int (i : Int) (t : Tok) : Lay P ρ (Value.int i t) (D.int i)
  | flt (b : UInt64) (t : Tok) : Lay P ρ (Value.float b t) (D.flt b)
  | str (x : Str) (t : Tok) : Lay P ρ (Value.str x t) (D.str x)
  | tup {a : Addr} {vs : List Value} {n : Nat} {ds : List D} : P a (tupObj vs n) → Lays P ρ vs ds → Lay P ρ (Value.ref a) (D.tup ds)
  | lst {a : Addr} {vs : List Value} {n : Nat} {ds : List D} : P a (lstObj vs n) → Lays P ρ vs ds → Lay P ρ (Value.ref a) (D.lst ds)
  | rng {a : Addr} {x y z : Int} {t u v : Tok} : P a { cls := .type "range", dict := Option.none, data := .fields #[.int x t, .int y u, .int z v], slots := #[] } → Lay P ρ (Value.ref a) (D.rng x y z)
  | ref {i : Nat} {a : Addr} : ρ[i]? = some a → Lay P ρ (Value.ref a) (D.ref i)
inductive Lays (P : Addr → Obj → Prop) (ρ : List Addr) : List Value → List D → Prop
  | nil : Lays P ρ [] []
  | cons {v : Value} {vs : List Value} {d : D} {ds : List D} : Lay P ρ v d → Lays P ρ vs ds → Lays P ρ (v :: vs) (d :: ds)
end

section
variable {P P' : Addr → Obj → Prop} {ρ ρ' : List Addr}
theorem Lay.mono (hP : ∀ a o, P a o → P' a o) (hρ : ∀ (i : Nat) (a : Addr), ρ[i]? = some a → ρ'[i]? = some a) {v : Value} {d : D} (h : Lay P ρ v d) : Lay P' ρ' v d :=
  Lay.rec (motive_1 := fun v d _ => Lay P' ρ' v d) (motive_2 := fun vs ds _ => Lays P' ρ' vs ds) .none .bool .int .flt .str (fun h _ r => .tup (hP _ _ h) r) (fun h _ r => .lst (hP _ _ h) r) (fun h => .rng (hP _ _ h)) (fun h => .ref (hρ _ _ h)) .nil (fun _ _ a b => .cons a b) h
theorem Lays.mono (hP : ∀ a o, P a o → P' a o) (hρ : ∀ (i : Nat) (a : Addr), ρ[i]? = some a → ρ'[i]? = some a) {vs : List Value} {ds : List D} (h : Lays P ρ vs ds) : Lays P' ρ' vs ds :=
  Lays.rec (motive_1 := fun v d _ => Lay P' ρ' v d) (motive_2 := fun vs ds _ => Lays P' ρ' vs ds) .none .bool .int .flt .str (fun h _ r => .tup (hP _ _ h) r) (fun h _ r => .lst (hP _ _ h) r) (fun h => .rng (hP _ _ h)) (fun h => .ref (hρ _ _ h)) .nil (fun _ _ a b => .cons a b) h
theorem Lay.noneI {v : Value} (h : Lay P ρ v .none) : v = .none := by cases h; rfl
theorem Lay.boolI {v : Value} {b : Bool} (h : Lay P ρ v (.bool b)) : v = .bool b := by cases h; rfl
theorem Lay.intI {v : Value} {i : Int} (h : Lay P ρ v (.int i)) : ∃ t, v = .int i t := by cases h; exact ⟨_, rfl⟩
theorem Lay.fltI {v : Value} {i : UInt64} (h : Lay P ρ v (.flt i)) : ∃ t, v = .float i t := by cases h; exact ⟨_, rfl⟩
theorem Lay.strI {v : Value} {i : Str} (h : Lay P ρ v (.str i)) : ∃ t, v = .str i t := by cases h; exact ⟨_, rfl⟩
theorem Lay.tupI {v : Value} {l : List D} (h : Lay P ρ v (.tup l)) : ∃ a vs n, v = .ref a ∧ P a (tupObj vs n) ∧ Lays P ρ vs l := by cases h with | tup p r => exact ⟨_, _, _, rfl, p, r⟩
theorem Lay.lstI {v : Value} {l : List D} (h : Lay P ρ v (.lst l)) : ∃ a vs n, v = .ref a ∧ P a (lstObj vs n) ∧ Lays P ρ vs l := by cases h with | lst p r => exact ⟨_, _, _, rfl, p, r⟩
theorem Lay.refI {v : Value} {i : Nat} (h : Lay P ρ v (.ref i)) : ∃ a, v = .ref a ∧ ρ[i]? = some a := by cases h with | ref p => exact ⟨_, rfl, p⟩
theorem Lays.nilI {vs : List Value} (h : Lays P ρ vs []) : vs = [] := by cases h; rfl
theorem Lays.consI {vs : List Value} {d : D} {ds : List D} (h : Lays P ρ vs (d :: ds)) : ∃ v us, vs = v :: us ∧ Lay P ρ v d ∧ Lays P ρ us ds := by cases h with | cons p r => exact ⟨_, _, rfl, p, r⟩
theorem Lays.nilV {ds : List D} (h : Lays P ρ [] ds) : ds = [] := by cases h; rfl
theorem Lays.consV {v : Value} {vs : List Value} {ds : List D} (h : Lays P ρ (v :: vs) ds) : ∃ d es, ds = d :: es ∧ Lay P ρ v d ∧ Lays P ρ vs es := by cases h with | cons p r => exact ⟨_, _, rfl, p, r⟩
/-- a datum without references above n may be read with the first n alone -/
theorem take_some {n i : Nat} {a : Addr} (hi : i < n) (h : ρ[i]? = some a) : (ρ.take n)[i]? = some a := by
  rw [List.getElem?_take_of_lt hi]; exact h
theorem Lay.cut {n : Nat} {v : Value} {d : D} (h : Lay P ρ v d) : D.refsLt n d = true → Lay P (ρ.take n) v d :=
  Lay.rec (motive_1 := fun v d _ => D.refsLt n d = true → Lay P (ρ.take n) v d) (motive_2 := fun vs ds _ => D.refsLts n ds = true → Lays P (ρ.take n) vs ds) (fun _ => .none) (fun b _ => .bool b) (fun i t _ => .int i t) (fun i t _ => .flt i t) (fun i t _ => .str i t)
    (fun h _ r e => .tup h (r e)) (fun h _ r e => .lst h (r e)) (fun h _ => .rng h) (fun h e => .ref (take_some (Nat.le_of_ble_eq_true e) h)) (fun _ => .nil) (fun _ _ a b e => .cons (a (an2 e).1) (b (an2 e).2)) h
theorem Lays.cut {n : Nat} {vs : List Value} {ds : List D} (h : Lays P ρ vs ds) : D.refsLts n ds = true → Lays P (ρ.take n) vs ds :=
  Lays.rec (motive_1 := fun v d _ => D.refsLt n d = true → Lay P (ρ.take n) v d) (motive_2 := fun vs ds _ => D.refsLts n ds = true → Lays P (ρ.take n) vs ds) (fun _ => .none) (fun b _ => .bool b) (fun i t _ => .int i t) (fun i t _ => .flt i t) (fun i t _ => .str i t)
    (fun h _ r e => .tup h (r e)) (fun h _ r e => .lst h (r e)) (fun h _ => .rng h) (fun h e => .ref (take_some (Nat.le_of_ble_eq_true e) h)) (fun _ => .nil) (fun _ _ a b e => .cons (a (an2 e).1) (b (an2 e).2)) h
theorem Lays.length {vs : List Value} {ds : List D} (h : Lays P ρ vs ds) : vs.length = ds.length := by
  induction vs generalizing ds with
  | nil => rw [h.nilV]; rfl
  | cons v vs ih => obtain ⟨d, es, rfl, _, r⟩ := h.consV; exact congrArg Nat.succ (ih r)
theorem Lays.append {vs ws : List Value} {ds es : List D} (h : Lays P ρ vs ds) (k : Lays P ρ ws es) : Lays P ρ (vs ++ ws) (ds ++ es) := by
  induction vs generalizing ds with
  | nil => rw [h.nilV]; exact k
  | cons v vs ih => obtain ⟨d, es, rfl, a, r⟩ := h.consV; exact .cons a (ih r)
theorem Lays.one {v : Value} {d : D} (h : Lay P ρ v d) : Lays P ρ [v] [d] := .cons h .nil
theorem Lays.get {vs : List Value} {ds : List D} (h : Lays P ρ vs ds) {k : Nat} {d : D} (hk : ds[k]? = some d) : ∃ v, vs[k]? = some v ∧ Lay P ρ v d := by
  induction vs generalizing ds k with
  | nil => rw [h.nilV] at hk; exact bad hk
  | cons v vs ih =>
    obtain ⟨d', es, rfl, a, r⟩ := h.consV
    cases k with
    | zero => cases hk; exact ⟨v, rfl, a⟩
    | succ k => exact ih r hk
theorem Lays.get' {vs : List Value} {ds : List D} (h : Lays P ρ vs ds) {k : Nat} {v : Value} (hk : vs[k]? = some v) : ∃ d, ds[k]? = some d ∧ Lay P ρ v d := by
  induction vs generalizing ds k with
  | nil => exact bad hk
  | cons w vs ih =>
    obtain ⟨d', es, rfl, a, r⟩ := h.consV
    cases k with
    | zero => cases hk; exact ⟨d', rfl, a⟩
    | succ k => exact ih r hk
theorem Lays.take {vs : List Value} {ds : List D} (h : Lays P ρ vs ds) (n : Nat) : Lays P ρ (vs.take n) (ds.take n) := by
  induction vs generalizing ds n with
  | nil => rw [h.nilV, List.take_nil, List.take_nil]; exact .nil
  | cons v vs ih =>
    obtain ⟨d', es, rfl, a, r⟩ := h.consV
    cases n with
    | zero => exact .nil
    | succ n => exact .cons a (ih r n)
theorem Lays.drop {vs : List Value} {ds : List D} (h : Lays P ρ vs ds) (n : Nat) : Lays P ρ (vs.drop n) (ds.drop n) := by
  induction vs generalizing ds n with
  | nil => rw [h.nilV, List.drop_nil, List.drop_nil]; exact .nil
  | cons v vs ih =>
    obtain ⟨d', es, rfl, a, r⟩ := h.consV
    cases n with
    | zero => exact .cons a r
    | succ n => exact ih r n
theorem Lays.set {vs : List Value} {ds : List D} (h : Lays P ρ vs ds) {v : Value} {d : D} (hd : Lay P ρ v d) (n : Nat) : Lays P ρ (vs.set n v) (ds.set n d) := by
  induction vs generalizing ds n with
  | nil => rw [h.nilV, List.set_nil, List.set_nil]; exact .nil
  | cons w vs ih =>
    obtain ⟨d', es, rfl, a, r⟩ := h.consV
    cases n with
    | zero => exact .cons hd r
    | succ n => exact .cons a (ih r n)
theorem Lays.snoc {vs : List Value} {v : Value} {ds : List D} (h : Lays P ρ (vs ++ [v]) ds) : ∃ es d, ds = es ++ [d] ∧ Lays P ρ vs es ∧ Lay P ρ v d := by
  induction vs generalizing ds with
  | nil =>
    obtain ⟨d', es, rfl, a, r⟩ := h.consV
    cases r.nilV
    exact ⟨[], _, rfl, .nil, a⟩
  | cons u vs ih =>
    obtain ⟨d', es, rfl, a, r⟩ := h.consV
    obtain ⟨es, d, rfl, hr, hd⟩ := ih r
    exact ⟨_ :: es, d, rfl, .cons a hr, hd⟩
theorem Lays.ints {vs : List Value} {ds : List D} (h : Lays P ρ vs ds) {ns : List Int} (e : intsOf ds = some ns) : IntsAre vs ns := by
  induction ds generalizing vs ns with
  | nil => rw [h.nilI]; cases e; exact .nil
  | cons d ds ih =>
    obtain ⟨v, us, rfl, a, r⟩ := h.consI
    obtain ⟨i, h1, e⟩ := bd_ok e
    obtain ⟨ms, h2, rfl⟩ := mp_ok e
    cases dI_ok h1
    obtain ⟨t, rfl⟩ := a.intI
    exact .cons _ _ (ih r h2)
theorem Lays.strs {vs : List Value} {ds : List D} (h : Lays P ρ vs ds) {xs : List Str} (e : strsOf ds = some xs) : ∃ l, vs = strValues l ∧ l.map (·.1) = xs := by
  induction ds generalizing vs xs with
  | nil => rw [h.nilI]; cases e; exact ⟨[], rfl, rfl⟩
  | cons d ds ih =>
    obtain ⟨v, us, rfl, a, r⟩ := h.consI
    obtain ⟨i, h1, e⟩ := bd_ok e
    obtain ⟨ms, h2, rfl⟩ := mp_ok e
    cases dS_ok h1
    obtain ⟨t, rfl⟩ := a.strI
    obtain ⟨l, rfl, rfl⟩ := ih r h2
    exact ⟨(_, _) :: l, rfl, rfl⟩
end
end Mine
end
section
open PySem PySem.W PySem.Calls PyProof.Rows
set_option Elab.async false
namespace Mine

structure Cx where
  prog : Program
  w : World
  K : Frag
  C : Addr
  s₀ : Shared

noncomputable def Out (ms : List Addr) (h : Heap) : Addr → Obj → Prop := fun a o => h.get? a = some o ∧ a ∉ ms

noncomputable def AccDict (od : Obj) : Prop := ∃ hs t v k, od = dictOf [⟨hs, .str (Str.ofString "_initial_size") t, v⟩] k
noncomputable def accObj (C dd : Addr) (vs : List Value) (n : Nat) : Obj := { cls := .ref C, dict := some dd, data := .seq vs.toArray n }

noncomputable def MoAt (c : Cx) (ms ρ : List Addr) (h : Heap) (a : Addr) : MO → Prop
  | .ml ds => ∃ vs : List Value, h.IsList a vs.toArray ∧ Lays (Out ms h) ρ vs ds
  | .acc ds => ∃ vs n dd od, h.get? a = some (accObj c.C dd vs n) ∧ Out ms h dd od ∧ AccDict od ∧ Lays (Out ms h) ρ vs ds

structure Wf (c : Cx) (fm ρ : List Addr) (st : Store) (s : Shared) : Prop where
  same : ∃ h tk, s = { c.s₀ with heap := h, toks := tk }
  base : ∀ b o, c.s₀.heap.get? b = some o → s.heap.get? b = some o
  alive : ∀ a, a ∈ fm ∨ a ∈ ρ → ∃ o, s.heap.get? a = some o
  new : ∀ a, a ∈ fm ∨ a ∈ ρ → c.s₀.heap.get? a = none
  len : ρ.length = st.length
  store : ∀ (i : Nat) (a : Addr) (mo : MO), ρ[i]? = some a → st[i]? = some mo → MoAt c (fm ++ ρ) ρ s.heap a mo
  nodup : ρ.Nodup
  apart : ∀ a ∈ ρ, a ∉ fm

structure Adv (ρ ρ' : List Addr) (s s' : Shared) : Prop where
  keep : ∀ b o, b ∉ ρ → s.heap.get? b = some o → s'.heap.get? b = some o
  news : ∀ a ∈ ρ', a ∉ ρ → s.heap.get? a = none
  pre : ∀ (i : Nat) (a : Addr), ρ[i]? = some a → ρ'[i]? = some a

theorem Adv.refl (ρ : List Addr) (s : Shared) : Adv ρ ρ s s := ⟨fun _ _ _ e => e, fun _ h k => absurd h k, fun _ _ e => e⟩
theorem Adv.mem {ρ ρ' : List Addr} {s s' : Shared} (x : Adv ρ ρ' s s') {a : Addr} (h : a ∈ ρ) : a ∈ ρ' := by
  obtain ⟨i, hi⟩ := List.getElem?_of_mem h
  exact List.mem_of_getElem? (x.pre i a hi)
theorem Adv.trans {ρ₁ ρ₂ ρ₃ : List Addr} {s₁ s₂ s₃ : Shared} (x : Adv ρ₁ ρ₂ s₁ s₂) (y : Adv ρ₂ ρ₃ s₂ s₃) : Adv ρ₁ ρ₃ s₁ s₃ := by
  refine ⟨fun b o hb e => ?_, fun a ha hn => ?_, fun i a e => y.pre i a (x.pre i a e)⟩
  · refine y.keep b o (fun h2 => ?_) (x.keep b o hb e)
    rw [x.news b h2 hb] at e; cases e
  · by_cases h2 : a ∈ ρ₂
    · exact x.news a h2 hn
    · have h3 := y.news a ha h2
      cases e : s₁.heap.get? a with
      | none => rfl
      | some o => rw [x.keep a o hn e] at h3; cases h3
theorem Adv.out {ρ ρ' fm : List Addr} {s s' : Shared} (x : Adv ρ ρ' s s') {a : Addr} {o : Obj} (h : Out (fm ++ ρ) s.heap a o) : Out (fm ++ ρ') s'.heap a o := by
  obtain ⟨e, n⟩ := h
  rw [List.mem_append, not_or] at n
  refine ⟨x.keep a o n.2 e, fun hm => ?_⟩
  rcases List.mem_append.mp hm with h | h
  · exact n.1 h
  · rw [x.news a h n.2] at e; cases e
theorem Adv.lay {ρ ρ' fm : List Addr} {s s' : Shared} (x : Adv ρ ρ' s s') {v : Value} {d : D} (h : Lay (Out (fm ++ ρ) s.heap) ρ v d) : Lay (Out (fm ++ ρ') s'.heap) ρ' v d :=
  h.mono (fun _ _ q => x.out q) x.pre
theorem Adv.lays {ρ ρ' fm : List Addr} {s s' : Shared} (x : Adv ρ ρ' s s') {v : List Value} {d : List D} (h : Lays (Out (fm ++ ρ) s.heap) ρ v d) : Lays (Out (fm ++ ρ') s'.heap) ρ' v d :=
  h.mono (fun _ _ q => x.out q) x.pre

theorem kp_adv {s s' : Shared} (k : Keeps s s') (ρ : List Addr) : Adv ρ ρ s s' := by
  obtain ⟨h', tk, rfl, k⟩ := k
  exact ⟨fun b o _ e => k b o e, fun _ h n => absurd h n, fun _ _ e => e⟩
theorem kp_rfl (s : Shared) : Keeps s s := ⟨s.heap, s.toks, rfl, fun _ _ e => e⟩
theorem kp_tok (s : Shared) (t : Nat) : Keeps s { s with toks := t } := ⟨s.heap, t, rfl, fun _ _ e => e⟩
theorem kp_push (s : Shared) (o : Obj) : Keeps s { s with heap := s.heap.push o } := ⟨_, s.toks, rfl, fun _ _ e => Heap.get?_push_of_some _ e⟩
theorem kp_trans {a b c : Shared} (x : Keeps a b) (y : Keeps b c) : Keeps a c := by
  obtain ⟨h, t, rfl, k⟩ := x
  obtain ⟨h2, t2, rfl, k2⟩ := y
  exact ⟨h2, t2, rfl, fun b o e => k2 b o (k b o e)⟩
theorem kp_get {s s' : Shared} (k : Keeps s s') {b : Addr} {o : Obj} (e : s.heap.get? b = some o) : s'.heap.get? b = some o := by
  obtain ⟨h', tk, rfl, k⟩ := k
  exact k b o e
theorem kp_mk {s : Shared} {h' : Heap} {tk : Nat} (k : ∀ b o, s.heap.get? b = some o → h'.get? b = some o) : Keeps s { s with heap := h', toks := tk } := ⟨h', tk, rfl, k⟩

theorem MoAt.mono {c : Cx} {ms ms' ρ ρ' : List Addr} {h h' : Heap} {a : Addr} {mo : MO} (x : MoAt c ms ρ h a mo) (hP : ∀ b o, Out ms h b o → Out ms' h' b o) (hρ : ∀ (i : Nat) (a : Addr), ρ[i]? = some a → ρ'[i]? = some a)
    (ha : ∀ o, h.get? a = some o → h'.get? a = some o) : MoAt c ms' ρ' h' a mo := by
  cases mo with
  | ml ds => obtain ⟨vs, ⟨o, e, r⟩, l⟩ := x; exact ⟨vs, ⟨o, ha _ e, r⟩, l.mono hP hρ⟩
  | acc ds => obtain ⟨vs, n, dd, od, e, ed, ad, l⟩ := x; exact ⟨vs, n, dd, od, ha _ e, hP _ _ ed, ad, l.mono hP hρ⟩

theorem Wf.keeps {c : Cx} {fm ρ : List Addr} {st : Store} {s s' : Shared} (x : Wf c fm ρ st s) (k : Keeps s s') : Wf c fm ρ st s' := by
  refine ⟨?_, fun b o e => kp_get k (x.base b o e), fun a ha => ?_, x.new, x.len, fun i a mo e1 e2 => ?_, x.nodup, x.apart⟩
  · obtain ⟨h, t, e⟩ := x.same
    obtain ⟨h', t', rfl, _⟩ := k
    exact ⟨h', t', by rw [e]⟩
  · obtain ⟨o, e⟩ := x.alive a ha
    exact ⟨o, kp_get k e⟩
  · exact (x.store i a mo e1 e2).mono (fun b o q => (kp_adv k ρ).out q) (fun _ _ e => e) fun o e => kp_get k e

/-- a new object is outside all that may change -/
theorem Wf.out_new {c : Cx} {fm ρ : List Addr} {st : Store} {s : Shared} (x : Wf c fm ρ st s) {s' : Shared} {a : Addr} {o : Obj} (hn : s.heap.get? a = none) (e : s'.heap.get? a = some o) : Out (fm ++ ρ) s'.heap a o := by
  refine ⟨e, fun hm => ?_⟩
  obtain ⟨o', e'⟩ := x.alive a (List.mem_append.mp hm)
  rw [hn] at e'; cases e'
theorem size_none (h : Heap) : h.get? h.objs.size = none := by
  cases e : h.get? h.objs.size with
  | none => rfl
  | some o => exact absurd (Heap.lt_size e) (Nat.lt_irrefl _)

noncomputable def VarAt (env : Env) (h : Heap) (x : Str) (v : Value) : Prop :=
  (env.kindOf x = some .local ∧ ∃ m, h.Ns env.locals m ∧ m x = some v) ∨
  ((env.kindOf x = some .cell ∨ env.kindOf x = some .free) ∧ ∃ cc, env.cells.lookup x = some cc ∧ h.IsCell cc (some v))

structure Fm (kd : Str → Option NameKind) (sc : List (Str × Nat)) (env : Env) (fm : List Addr) (h : Heap) : Prop where
  kdE : env.kindOf = kd
  loc : env.locals ∈ fm
  ns : ∃ m, h.Ns env.locals m
  glob : env.globals = mainGlobals
  blt : env.builtins = builtinsNs
  kind : env.scope.kind = .function
  cell : ∀ x cc, env.cells.lookup x = some cc → cc ∈ fm ∧ (∃ v, h.IsCell cc v) ∧ cc ≠ env.locals
  inj : ∀ x y cc, env.cells.lookup x = some cc → env.cells.lookup y = some cc → x = y
  kinds : ∀ p ∈ sc, kd p.1 = some .local ∨ ((kd p.1 = some .cell ∨ kd p.1 = some .free) ∧ ∃ cc, env.cells.lookup p.1 = some cc)
  one : ∀ p ∈ sc, ∀ q ∈ sc, p.2 = q.2 → p.1 = q.1
  two : ∀ p ∈ sc, ∀ q ∈ sc, p.1 = q.1 → p.2 = q.2

noncomputable def Vr (sc : List (Str × Nat)) (env : Env) (fm ρ : List Addr) (σ : Vars) (h : Heap) : Prop :=
  ∀ p ∈ sc, ∀ d, σ.get p.2 = some d → ∃ v, VarAt env h p.1 v ∧ Lay (Out (fm ++ ρ) h) ρ v d

theorem cellAt {h h' : Heap} {a : Addr} {v : Option Value} (x : h.IsCell a v) (e : ∀ o, h.get? a = some o → h'.get? a = some o) : h'.IsCell a v := let ⟨o, ho, r⟩ := x; ⟨o, e _ ho, r⟩

section
variable {c : Cx} {kd : Str → Option NameKind} {sc : List (Str × Nat)} {env : Env} {fm ρ ρ' : List Addr} {st : Store} {σ : Vars} {s s' : Shared}
/-- what an expression leaves: the frame stands -/
theorem Adv.fm_keep (x : Adv ρ ρ' s s') (W : Wf c fm ρ st s) {a : Addr} {o : Obj} (ha : a ∈ fm) (e : s.heap.get? a = some o) : s'.heap.get? a = some o :=
  x.keep a o (fun h => W.apart a h ha) e
theorem Fm.adv (f : Fm kd sc env fm s.heap) (W : Wf c fm ρ st s) (x : Adv ρ ρ' s s') : Fm kd sc env fm s'.heap := by
  refine { f with ns := ?_, cell := fun y cc e => ?_ }
  · obtain ⟨m, hn⟩ := f.ns
    exact ⟨m, hn.at' fun o e => x.fm_keep W f.loc e⟩
  · obtain ⟨h1, ⟨v, h2⟩, h3⟩ := f.cell y cc e
    exact ⟨h1, ⟨v, cellAt h2 fun o e => x.fm_keep W h1 e⟩, h3⟩
theorem Vr.adv (V : Vr sc env fm ρ σ s.heap) (f : Fm kd sc env fm s.heap) (W : Wf c fm ρ st s) (x : Adv ρ ρ' s s') : Vr sc env fm ρ' σ s'.heap := by
  intro p hp d hd
  obtain ⟨v, hv, l⟩ := V p hp d hd
  refine ⟨v, ?_, x.lay l⟩
  rcases hv with ⟨k, m, hn, hm⟩ | ⟨k, cc, hc, hv⟩
  · exact .inl ⟨k, m, hn.at' fun o e => x.fm_keep W f.loc e, hm⟩
  · exact .inr ⟨k, cc, hc, cellAt hv fun o e => x.fm_keep W (f.cell _ _ hc).1 e⟩
end

/-- room for n more levels -/
noncomputable def Rm (n : Nat) (A : Around) : Prop := A.handled = none ∧ A.depth + n < 900 ∧ A.units + 10 * n < 9000
theorem Rm.le {n m : Nat} {A : Around} (h : Rm n A) (k : m ≤ n) : Rm m A := ⟨h.1, by have := h.2.1; omega, by have := h.2.2; omega⟩

noncomputable def EvE (c : Cx) (A : Around) (kd : Str → Option NameKind) (sc : List (Str × Nat)) (e : Expr) (σ : Vars) (st : Store) (d : D) (st' : Store) : Prop :=
  ∀ (env : Env) (fm ρ : List Addr) (s : Shared), Fm kd sc env fm s.heap → Wf c fm ρ st s → Vr sc env fm ρ σ s.heap →
    ∀ Q : Value → Shared → Prop, (∀ v s' ρ', Wf c fm ρ' st' s' → Adv ρ ρ' s s' → Lay (Out (fm ++ ρ') s'.heap) ρ' v d → Q v s') →
      wpAny (model c.prog c.w) A (eval e env) Q (fun _ _ => False) s
noncomputable def EvT (c : Cx) (A : Around) (kd : Str → Option NameKind) (sc : List (Str × Nat)) (e : Expr) (σ : Vars) (st : Store) (b : Bool) (st' : Store) : Prop :=
  ∀ (env : Env) (fm ρ : List Addr) (s : Shared), Fm kd sc env fm s.heap → Wf c fm ρ st s → Vr sc env fm ρ σ s.heap →
    ∀ Q : Bool → Shared → Prop, (∀ s' ρ', Wf c fm ρ' st' s' → Adv ρ ρ' s s' → Q b s') →
      wpAny (model c.prog c.w) A (isTrue e env (eval e env)) Q (fun _ _ => False) s
/-- an operation upon values, that changes nothing -/
noncomputable def Op (c : Cx) (A : Around) (t : Sem Value) (fm ρ : List Addr) (d : D) (s : Shared) : Prop :=
  ∀ Q : Value → Shared → Prop, (∀ v s', Keeps s s' → Lay (Out (fm ++ ρ) s'.heap) ρ v d → Q v s') → wpAny (model c.prog c.w) A t Q (fun _ _ => False) s

end Mine
end
section
open PySem PySem.W PySem.Calls PyProof.Rows
set_option Elab.async false
namespace Mine

section
variable {c : Cx} {A : Around} {fm ρ : List Addr} {st : Store} {s : Shared} {a b : Value} {x y d : D}

theorem op_val {t : Sem Value} {v : Value} {d : D} (hl : ∀ P : Addr → Obj → Prop, Lay P ρ v d)
    (h : ∀ Q : Value → Shared → Prop, (∀ k, Q v { s with toks := k }) → wpAny (model c.prog c.w) A t Q (fun _ _ => False) s) : Op c A t fm ρ d s :=
  fun Q hQ => h Q fun k => hQ v _ (kp_tok s k) (hl _)
theorem op_int {t : Sem Value} {i : Int} (h : ∀ Q : Value → Shared → Prop, (∀ u k, Q (.int i u) { s with toks := k }) → wpAny (model c.prog c.w) A t Q (fun _ _ => False) s) : Op c A t fm ρ (.int i) s :=
  fun Q hQ => h Q fun u k => hQ _ _ (kp_tok s k) (.int _ _)
theorem op_flt {t : Sem Value} {i : UInt64} (h : ∀ Q : Value → Shared → Prop, (∀ u k, Q (.float i u) { s with toks := k }) → wpAny (model c.prog c.w) A t Q (fun _ _ => False) s) : Op c A t fm ρ (.flt i) s :=
  fun Q hQ => h Q fun u k => hQ _ _ (kp_tok s k) (.flt _ _)
theorem op_str {t : Sem Value} {i : Str} (h : ∀ Q : Value → Shared → Prop, (∀ u k, Q (.str i u) { s with toks := k }) → wpAny (model c.prog c.w) A t Q (fun _ _ => False) s) : Op c A t fm ρ (.str i) s :=
  fun Q hQ => h Q fun u k => hQ _ _ (kp_tok s k) (.str _ _)
theorem op_bool {t : Sem Value} {i : Bool} (h : ∀ Q : Value → Shared → Prop, (∀ k, Q (.bool i) { s with toks := k }) → wpAny (model c.prog c.w) A t Q (fun _ _ => False) s) : Op c A t fm ρ (.bool i) s :=
  fun Q hQ => h Q fun k => hQ _ _ (kp_tok s k) (.bool _)
theorem lid_size {n : Nat} (h : n ≤ lid) : n ≤ sizeLine := Nat.le_trans h (by decide)

noncomputable abbrev LO (fm ρ : List Addr) (s : Shared) (a : Value) (x : D) : Prop := Lay (Out (fm ++ ρ) s.heap) ρ a x
theorem ii_at {P : Addr → Obj → Prop} {γ : Type} {f : Int → Int → Option γ} {r : γ} (ha : Lay P ρ a x) (hb : Lay P ρ b y) (h : two dI dI f x y = some r) : ∃ i j t u, a = .int i t ∧ b = .int j u ∧ f i j = some r := by
  obtain ⟨i, j, h1, h2, h3⟩ := two_ok h
  rw [dI_ok h1] at ha
  rw [dI_ok h2] at hb
  obtain ⟨t, e1⟩ := ha.intI
  obtain ⟨u, e2⟩ := hb.intI
  exact ⟨i, j, t, u, e1, e2, h3⟩
theorem ff_at {P : Addr → Obj → Prop} {γ : Type} {f : UInt64 → UInt64 → Option γ} {r : γ} (ha : Lay P ρ a x) (hb : Lay P ρ b y) (h : two dF dF f x y = some r) : ∃ i j t u, a = .float i t ∧ b = .float j u ∧ f i j = some r := by
  obtain ⟨i, j, h1, h2, h3⟩ := two_ok h
  rw [dF_ok h1] at ha
  rw [dF_ok h2] at hb
  obtain ⟨t, e1⟩ := ha.fltI
  obtain ⟨u, e2⟩ := hb.fltI
  exact ⟨i, j, t, u, e1, e2, h3⟩
theorem ss_at {P : Addr → Obj → Prop} {γ : Type} {f : Str → Str → Option γ} {r : γ} (ha : Lay P ρ a x) (hb : Lay P ρ b y) (h : two dS dS f x y = some r) : ∃ i j t u, a = .str i t ∧ b = .str j u ∧ f i j = some r := by
  obtain ⟨i, j, h1, h2, h3⟩ := two_ok h
  rw [dS_ok h1] at ha
  rw [dS_ok h2] at hb
  obtain ⟨t, e1⟩ := ha.strI
  obtain ⟨u, e2⟩ := hb.strI
  exact ⟨i, j, t, u, e1, e2, h3⟩

theorem addP_ok (ha : LO fm ρ s a x) (hb : LO fm ρ s b y) (h : addP x y = some d) : Op c A (binaryOp .Add a b) fm ρ d s := by
  rcases orP_ok h with h | h
  · obtain ⟨i, j, t, u, rfl, rfl, h⟩ := ii_at ha hb h
    cases h
    exact op_int fun Q hQ => add_int (hQ _ _)
  rcases orP_ok h with h | h
  · obtain ⟨i, j, t, u, rfl, rfl, h⟩ := ff_at ha hb h
    cases h
    exact op_flt fun Q hQ => add_float (hQ _ _)
  · obtain ⟨i, j, t, u, rfl, rfl, h⟩ := ss_at ha hb h
    obtain ⟨hl, h⟩ := if_ok h
    cases h
    exact op_str fun Q hQ => add_str hQ (lid_size hl)
theorem sbP_ok (ha : LO fm ρ s a x) (hb : LO fm ρ s b y) (h : sbP x y = some d) : Op c A (binaryOp .Sub a b) fm ρ d s := by
  rcases orP_ok h with h | h
  · obtain ⟨i, j, t, u, rfl, rfl, h⟩ := ii_at ha hb h
    cases h
    exact op_int fun Q hQ => sub_int (hQ _ _)
  · obtain ⟨i, j, t, u, rfl, rfl, h⟩ := ff_at ha hb h
    cases h
    exact op_flt fun Q hQ => sub_float (hQ _ _)
theorem mulP_ok (ha : LO fm ρ s a x) (hb : LO fm ρ s b y) (h : mulP x y = some d) : Op c A (binaryOp .Mult a b) fm ρ d s := by
  rcases orP_ok h with h | h
  · obtain ⟨i, j, t, u, rfl, rfl, h⟩ := ii_at ha hb h
    obtain ⟨hl, h⟩ := if_ok h
    cases h
    exact op_int fun Q hQ => mul_int (hQ _ _) (IntMulOk.of_left (intBits_le (Nat.lt_of_lt_of_le hl.1 (Nat.pow_le_pow_right (by decide) (by decide)))))
  rcases orP_ok h with h | h
  · obtain ⟨i, j, h1, h2, h⟩ := two_ok h
    rw [dF_ok h1] at ha
    rw [dI_ok h2] at hb
    obtain ⟨t, rfl⟩ := ha.fltI
    obtain ⟨u, rfl⟩ := hb.intI
    obtain ⟨hl, h⟩ := ifn_ok h
    cases h
    exact op_flt fun Q hQ => AutoFloatOps.mul_fi_1 hl (hQ _ _)
  · obtain ⟨i, j, h1, h2, h⟩ := two_ok h
    rw [dS_ok h1] at ha
    rw [dI_ok h2] at hb
    obtain ⟨t, rfl⟩ := ha.strI
    obtain ⟨u, rfl⟩ := hb.intI
    obtain ⟨hl, h⟩ := if_ok h
    cases h
    have h2 := hl.2
    have e : lid = 1048576 := rfl
    exact op_str fun Q hQ => SB.mul (mulOk_of 16 1048576 hl.1 (by omega) (by omega) (by decide) (by decide)) hQ
theorem divP_ok (ha : LO fm ρ s a x) (hb : LO fm ρ s b y) (h : divP x y = some d) : Op c A (binaryOp .Div a b) fm ρ d s := by
  rcases orP_ok h with h | h
  · obtain ⟨i, j, t, u, rfl, rfl, h⟩ := ff_at ha hb h
    obtain ⟨hl, h⟩ := ifn_ok h
    cases h
    exact op_flt fun Q hQ => AutoFloatOps.truediv_1 hl (hQ _ _)
  · obtain ⟨i, j, h1, h2, h⟩ := two_ok h
    rw [dI_ok h1] at ha
    rw [dF_ok h2] at hb
    obtain ⟨t, rfl⟩ := ha.intI
    obtain ⟨u, rfl⟩ := hb.fltI
    obtain ⟨hl, h⟩ := ifn_ok h
    obtain ⟨hl2, h⟩ := ifn_ok h
    cases h
    exact op_flt fun Q hQ => AutoFloatOps.truediv_if_2 hl hl2 (hQ _ _)
theorem fdvP_ok (ha : LO fm ρ s a x) (hb : LO fm ρ s b y) (h : fdvP x y = some d) : Op c A (binaryOp .FloorDiv a b) fm ρ d s := by
  obtain ⟨i, j, t, u, rfl, rfl, h⟩ := ii_at ha hb h
  obtain ⟨hl, h⟩ := ifn_ok h
  cases h
  rw [not_or, Decidable.not_not] at hl
  exact op_int fun Q hQ => floordiv_int hl.1 (hQ _ _) (.inl (PyProof.noPylong_small hl.2))
theorem modP_ok (ha : LO fm ρ s a x) (hb : LO fm ρ s b y) (h : modP x y = some d) : Op c A (binaryOp .Mod a b) fm ρ d s := by
  rcases orP_ok h with h | h
  · obtain ⟨i, j, t, u, rfl, rfl, h⟩ := ii_at ha hb h
    obtain ⟨hl, h⟩ := ifn_ok h
    cases h
    exact op_int fun Q hQ => mod_int' hl (hQ _ _)
  · obtain ⟨i, j, t, u, rfl, rfl, h⟩ := ff_at ha hb h
    obtain ⟨hl, h⟩ := ifn_ok h
    cases h
    exact op_flt fun Q hQ => AutoFloatOps.mod_1 hl (hQ _ _)
theorem powP_ok (ha : LO fm ρ s a x) (hb : LO fm ρ s b y) (h : powP x y = some d) : Op c A (binaryOp .Pow a b) fm ρ d s := by
  obtain ⟨i, j, t, u, rfl, rfl, h⟩ := ii_at ha hb h
  obtain ⟨hl, h⟩ := if_ok h
  cases h
  refine op_int fun Q hQ => pow_int hl.1 ?_ (hQ _ _)
  have h1 := intBits_le (k := 20) hl.2.2
  exact Int.le_trans (Int.mul_le_mul (Int.ofNat_le.mpr h1) hl.2.1 hl.1 (by decide)) (by decide)
theorem binP_ok {op : Operator} (ha : LO fm ρ s a x) (hb : LO fm ρ s b y) (h : binP op x y = some d) : Op c A (binaryOp op a b) fm ρ d s := by
  cases op with
  | Add => exact addP_ok ha hb h
  | Sub => exact sbP_ok ha hb h
  | Mult => exact mulP_ok ha hb h
  | Div => exact divP_ok ha hb h
  | FloorDiv => exact fdvP_ok ha hb h
  | Mod => exact modP_ok ha hb h
  | Pow => exact powP_ok ha hb h
  | _ => exact bad h

theorem D.reads {P : Addr → Obj → Prop} {h : Heap} (hP : ∀ a o, P a o → h.get? a = some o) {v : Value} {d : D} (l : Lay P ρ v d) : D.pl d = true → ∃ as, Reads h v (D.py d) as :=
  Lay.rec (motive_1 := fun v d _ => D.pl d = true → ∃ as, Reads h v (D.py d) as) (motive_2 := fun vs ds _ => D.pls ds = true → ∃ as, ReadsAll h vs (D.pys ds) as) (fun _ => ⟨_, Reads.none⟩) (fun _ e => Bool.noConfusion e) (fun i t _ => ⟨_, Reads.int i t⟩) (fun _ _ e => Bool.noConfusion e) (fun x t _ => ⟨_, Reads.str x t⟩)
    (fun p _ r e => let ⟨as, q⟩ := r e; ⟨as, reads_tuple_at (hP _ _ p) rfl rfl q⟩) (fun p _ r e => let ⟨as, q⟩ := r e; ⟨_, reads_list_at (hP _ _ p) rfl rfl q⟩) (fun _ e => Bool.noConfusion e) (fun _ e => Bool.noConfusion e)
    (fun _ => ⟨_, ReadsAll.nil⟩) (fun _ _ a b e => let ⟨as, q⟩ := a (an2 e).1; let ⟨bs, p⟩ := b (an2 e).2; ⟨_, ReadsAll.cons q p⟩) l
theorem Rm.c64 {n : Nat} (h : Rm n A) : A.units + 64 < cLine := by have := h.2.2; have e : cLine = 9900 := rfl; omega
theorem outP (ms : List Addr) (h : Heap) : ∀ a o, Out ms h a o → h.get? a = some o := fun _ _ x => x.1
theorem seqEq_ok {r : Bool} (h : seqEq x y = some r) : eqOk x = true ∧ eqOk y = true ∧ r = PyData.eqv (D.py x) (D.py y) := by
  unfold seqEq at h
  cases hb : eqOk x && eqOk y with
  | false => rw [hb] at h; exact bad h
  | true => rw [hb] at h; cases h; exact ⟨(an2 hb).1, (an2 hb).2, rfl⟩

theorem cmp_eq {n : Nat} {r : Bool} (R : Rm n A) (ha : LO fm ρ s a x) (hb : LO fm ρ s b y) (h : seqEq x y = some r) : Op c A (compareOp .Eq a b) fm ρ (.bool r) s := by
  obtain ⟨e1, e2, rfl⟩ := seqEq_ok h
  obtain ⟨as, ra⟩ := D.reads (outP _ _) ha (an2 e1).1
  obtain ⟨bs, rb⟩ := D.reads (outP _ _) hb (an2 e2).1
  exact op_bool fun Q hQ => eq_dataH ra rb (an2 e1).2 (an2 e2).2 R.c64 (hQ _)
theorem cmp_ne {n : Nat} {r : Bool} (R : Rm n A) (ha : LO fm ρ s a x) (hb : LO fm ρ s b y) (h : seqEq x y = some r) : Op c A (compareOp .NotEq a b) fm ρ (.bool (!r)) s := by
  obtain ⟨e1, e2, rfl⟩ := seqEq_ok h
  obtain ⟨as, ra⟩ := D.reads (outP _ _) ha (an2 e1).1
  obtain ⟨bs, rb⟩ := D.reads (outP _ _) hb (an2 e2).1
  exact op_bool fun Q hQ => ne_dataH ra rb (an2 e1).2 (an2 e2).2 R.c64 (hQ _)
theorem eqP_ok {n : Nat} {r : Bool} (R : Rm n A) (ha : LO fm ρ s a x) (hb : LO fm ρ s b y) (h : eqP x y = some r) : Op c A (compareOp .Eq a b) fm ρ (.bool r) s := by
  rcases orP_ok h with h | h
  · obtain ⟨i, j, t, u, rfl, rfl, h⟩ := ii_at ha hb h
    cases h; exact op_bool fun Q hQ => eq_int (hQ _)
  rcases orP_ok h with h | h
  · obtain ⟨i, j, t, u, rfl, rfl, h⟩ := ss_at ha hb h
    cases h; exact op_bool fun Q hQ => eq_str (hQ _)
  rcases orP_ok h with h | h
  · obtain ⟨i, j, t, u, rfl, rfl, h⟩ := ff_at ha hb h
    cases h; exact op_bool fun Q hQ => AutoFloatOps.eq_0 (hQ _)
  · exact cmp_eq R ha hb h
theorem neP_ok {n : Nat} {r : Bool} (R : Rm n A) (ha : LO fm ρ s a x) (hb : LO fm ρ s b y) (h : neP x y = some r) : Op c A (compareOp .NotEq a b) fm ρ (.bool r) s := by
  rcases orP_ok h with h | h
  · obtain ⟨i, j, t, u, rfl, rfl, h⟩ := ii_at ha hb h
    cases h; exact op_bool fun Q hQ => ne_int (hQ _)
  rcases orP_ok h with h | h
  · obtain ⟨i, j, t, u, rfl, rfl, h⟩ := ss_at ha hb h
    cases h; exact op_bool fun Q hQ => ne_str (hQ _)
  rcases orP_ok h with h | h
  · obtain ⟨i, j, h1, h2, h⟩ := two_ok h
    rw [dB_ok h1] at ha
    rw [dB_ok h2] at hb
    rw [ha.boolI, hb.boolI]
    cases h; exact op_bool fun Q hQ => ne_bool (hQ _)
  rcases orP_ok h with h | h
  · obtain ⟨i, j, t, u, rfl, rfl, h⟩ := ff_at ha hb h
    cases h; exact op_bool fun Q hQ => AutoFloatOps.ne_0 (hQ _)
  · obtain ⟨q, hq, rfl⟩ := mp_ok h
    exact cmp_ne R ha hb hq
theorem cmpP_ok {op : CmpOp} {n : Nat} {r : Bool} (R : Rm n A) (ha : LO fm ρ s a x) (hb : LO fm ρ s b y) (h : cmpP st op x y = some r) : Op c A (compareOp op a b) fm ρ (.bool r) s := by
  cases op with
  | Eq => exact eqP_ok R ha hb h
  | NotEq => exact neP_ok R ha hb h
  | Lt =>
    rcases orP_ok h with h | h
    · obtain ⟨i, j, t, u, rfl, rfl, h⟩ := ii_at ha hb h
      cases h; exact op_bool fun Q hQ => PyProof.Rows.lt_int (hQ _)
    · obtain ⟨i, j, t, u, rfl, rfl, h⟩ := ff_at ha hb h
      cases h; exact op_bool fun Q hQ => AutoFloatOps.lt_0 (hQ _)
  | LtE =>
    rcases orP_ok h with h | h
    · obtain ⟨i, j, t, u, rfl, rfl, h⟩ := ii_at ha hb h
      cases h; exact op_bool fun Q hQ => PyProof.Rows.le_int (hQ _)
    · obtain ⟨i, j, t, u, rfl, rfl, h⟩ := ff_at ha hb h
      cases h; exact op_bool fun Q hQ => AutoFloatOps.le_0 (hQ _)
  | Gt =>
    obtain ⟨i, j, t, u, rfl, rfl, h⟩ := ii_at ha hb h
    cases h; exact op_bool fun Q hQ => PyProof.Rows.gt_int (hQ _)
  | GtE =>
    obtain ⟨i, j, t, u, rfl, rfl, h⟩ := ii_at ha hb h
    cases h; exact op_bool fun Q hQ => PyProof.Rows.ge_int (hQ _)
  | _ => exact bad h
end
end Mine
end
section
open PySem PySem.W PySem.Calls PyProof.Rows
set_option Elab.async false
set_option linter.unusedVariables false
namespace Mine

section
variable {c : Cx} {A : Around} {fm ρ : List Addr} {st : Store} {s : Shared} {a b : Value} {x y d : D}

theorem lst_isList {h : Heap} {l : Addr} {vs : List Value} {n : Nat} (e : h.get? l = some (lstObj vs n)) : h.IsList l vs.toArray := ⟨_, e, rfl, n, rfl⟩

/-- the items of a list that stands in the heap -/
structure ListAt (h : Heap) (ms ρ : List Addr) (v : Value) (l : List D) : Prop where
  ex : ∃ (a : Addr) (vs : List Value), v = .ref a ∧ h.IsList a vs.toArray ∧ Lays (Out ms h) ρ vs l
theorem listAt_of {l : List D} (W : Wf c fm ρ st s) (ha : LO fm ρ s a x) (h : asList st x = some l) : ListAt s.heap (fm ++ ρ) ρ a l := by
  rcases orP_ok h with h | h
  · rw [dL_ok h] at ha
    obtain ⟨b, vs, n, rfl, p, r⟩ := ha.lstI
    exact ⟨_, _, rfl, lst_isList p.1, r⟩
  · obtain ⟨q, hq, rfl⟩ := mp_ok h
    obtain ⟨e1, e2⟩ := getMl_ok hq
    rw [e1] at ha
    obtain ⟨b, rfl, hi⟩ := ha.refI
    obtain ⟨vs, ho, hl⟩ := W.store _ _ _ hi e2
    exact ⟨_, _, rfl, ho, hl⟩

/-- an item, and what stands behind it in the tree of a subscript -/
theorem tail_op {value slice : Expr} {T id : String} {ops : List Value} (hT : s.TypeIs a T) (hl : typeLookup (.type T) "__getitem__" = pure (some (.builtin id)))
    (hs : subscripted slice false a b = operate ops (getItem a b)) (h : Op c A (getItem a b) fm ρ d s) : Op c A (subscriptTail value slice a b) fm ρ d s :=
  fun Q hQ => tail_any hT hl (h Q hQ) hs

theorem lid63 {i : Int} (h : i.natAbs ≤ lid) : (decide (i < -(2 ^ 63 : Int)) || decide (i ≥ 2 ^ 63)) = false := by
  have e : lid = 1048576 := rfl
  have h1 : ¬ i < -(2 ^ 63 : Int) := by omega
  have h2 : ¬ i ≥ 2 ^ 63 := by omega
  rw [decide_eq_false h1, decide_eq_false h2]; rfl
theorem lid63' {i : Int} (h : i.natAbs ≤ lid) : i < 2 ^ 63 := by have e : lid = 1048576 := rfl; omega

theorem item_list {value slice : Expr} {l : List D} {i : Int} {t : Tok} (h : ListAt s.heap (fm ++ ρ) ρ a l) (h0 : 0 ≤ i) (hi : i.natAbs ≤ lid) (e : l[i.toNat]? = some d)
    (hs : subscripted slice false a (.int i t) = operate [a, .int i t] (getItem a (.int i t))) : Op c A (subscriptTail value slice a (.int i t)) fm ρ d s := by
  obtain ⟨l', vs, rfl, ho, hl⟩ := h.ex
  obtain ⟨v, hv, lv⟩ := hl.get e
  exact tail_op ho.typeIs slot_list_getitem.lookup hs fun Q hQ =>
    wpAny_getItem_list ho h0 (lid63' hi) (by simpa using hv) (hQ v s (kp_rfl s) lv)

theorem okIdx_ok {i : Int} (h : okIdx i = true) : 0 ≤ i ∧ i.natAbs ≤ lid := ⟨of_decide_eq_true (an2 h).1, of_decide_eq_true (an2 h).2⟩
theorem item_tup {value slice : Expr} {l : List D} {i : Int} {t : Tok} (ha : LO fm ρ s a (.tup l)) (h0 : 0 ≤ i) (hi : i.natAbs ≤ lid) (h : l[i.toNat]? = some d) (hs : subscripted slice false a (.int i t) = operate [a, .int i t] (getItem a (.int i t))) : Op c A (subscriptTail value slice a (.int i t)) fm ρ d s := by
  obtain ⟨ta, vs, n, rfl, p, r⟩ := ha.tupI
  obtain ⟨v, hv, lv⟩ := r.get h
  have hj : seqIndex? i vs.length = some i.toNat := by
    have := (List.getElem?_eq_some_iff.mp hv).1
    unfold seqIndex?
    have e1 : ¬ i < 0 := by omega
    simp only [e1, if_false]
    have e2 : (decide (0 ≤ i) && decide (i < (vs.length : Int))) = true := by
      rw [decide_eq_true h0, decide_eq_true (by omega)]; rfl
    rw [if_pos e2]
  have hT : IsTup s.heap ta vs.toArray := ⟨_, p.1, rfl, n, rfl⟩
  exact fun Q hQ => item_tupleT hT (by have e : lid = 1048576 := rfl; omega) (lid63' hi) hj hv (hQ v s (kp_rfl s) lv) hs
theorem idxP_ok {value slice : Expr} (W : Wf c fm ρ st s) (ha : LO fm ρ s a x) (hb : LO fm ρ s b y) (h : idxP st x y = some d)
    (hs : subscripted slice false a b = operate [a, b] (getItem a b)) : Op c A (subscriptTail value slice a b) fm ρ d s := by
  obtain ⟨i, h1, h⟩ := bd_ok h
  rw [dI_ok h1] at hb
  obtain ⟨t, rfl⟩ := hb.intI
  rcases orP_ok h with h | h
  · obtain ⟨z, h2, h⟩ := bd_ok h
    rw [dS_ok h2] at ha
    obtain ⟨u, rfl⟩ := ha.strI
    obtain ⟨hi, h⟩ := if_ok h
    obtain ⟨cc, h1, h2⟩ := mp_ok h
    subst h2
    exact tail_op (typeIs_str s _ _) F.slot_str_getitem.lookup hs fun Q hQ => getItem_str (lid63 hi) h1 (hQ _ _ (kp_tok s _) (.str _ _))
  · obtain ⟨hi, h⟩ := if_ok h
    obtain ⟨h0, hi⟩ := okIdx_ok hi
    obtain ⟨l, h2, h⟩ := bd_ok h
    rcases orP_ok h2 with h2 | h2
    · rw [dT_ok h2] at ha
      exact item_tup ha h0 hi h hs
    · exact item_list (listAt_of W ha h2) h0 hi h hs

theorem neg_ok {i : Int} (ha : Lay (Out (fm ++ ρ) s.heap) ρ a (.int i)) : Op c A (unaryOp .USub a) fm ρ (.int (-i)) s := by
  obtain ⟨t, rfl⟩ := ha.intI
  exact op_int fun Q hQ => neg_int (hQ _ _)

/-- a part of a slice -/
inductive PartAt : Value → Option Int → Prop
  | none : PartAt .none .none
  | int (i : Int) (t : Tok) : PartAt (.int i t) (some i)
theorem PartAt.is {v : Value} {o : Option Int} (h : PartAt v o) : IsPart v o := by cases h <;> constructor
theorem PartAt.part {v : Value} {o : Option Int} (h : PartAt v o) : ∃ l : Option (Int × Tok), v = partValue l ∧ l.map (·.1) = o := by
  cases h with
  | none => exact ⟨.none, rfl, rfl⟩
  | int i t => exact ⟨some (i, t), rfl, rfl⟩

noncomputable def LayO (P : Addr → Obj → Prop) (ρ : List Addr) : Value → Option D → Prop
  | v, .none => v = .none
  | v, some d => Lay P ρ v d
theorem LayO.partI {P : Addr → Obj → Prop} {v : Value} {o : Option D} {q : Option Int} (h : LayO P ρ v o) (e : partI o = some q) : PartAt v q := by
  cases o with
  | none => cases e; rw [show v = .none from h]; exact .none
  | some d =>
    obtain ⟨i, h1, rfl⟩ := mp_ok (show (dI d).map some = some q from e)
    have h : Lay P ρ v d := h
    rw [dI_ok h1] at h
    obtain ⟨t, rfl⟩ := h.intI
    exact .int _ _

theorem slcP_ok {value : Expr} {lower upper : Option Expr} {p : Pos} {vl vu : Value} {lo hi : Option D} (ha : Lay (Out (fm ++ ρ) s.heap) ρ a x) (hl : LayO (Out (fm ++ ρ) s.heap) ρ vl lo) (hu : LayO (Out (fm ++ ρ) s.heap) ρ vu hi)
    (W : Wf c fm ρ st s) (h : slcP x lo hi = some d) (Q : Value → Shared → Prop) (hQ : ∀ v s', Keeps s s' → Lay (Out (fm ++ ρ) s'.heap) ρ v d → Q v s') :
    wpAny (model c.prog c.w) A (subscriptTail value (.Slice lower upper none p) a (.ref s.heap.objs.size)) Q (fun _ _ => False) { s with heap := s.heap.push { cls := .type "slice", data := .fields #[vl, vu, .none] } } := by
  rcases orP_ok h with h | h
  · obtain ⟨x, h1, h⟩ := bd_ok h
    rw [dS_ok h1] at ha
    obtain ⟨t, rfl⟩ := ha.strI
    obtain ⟨hx, h⟩ := if_ok h
    obtain ⟨q1, e1, h⟩ := bd_ok h
    obtain ⟨q2, e2, h⟩ := bd_ok h
    cases h
    obtain ⟨l, rfl, rfl⟩ := (hl.partI e1).part
    obtain ⟨u, rfl, rfl⟩ := (hu.partI e2).part
    refine tail_any (T := "str") (typeIs_str _ _ _) F.slot_str_getitem.lookup (wpAny_getItem_str_slice (l := l) (u := u) (st := none) ⟨_, Heap.get?_push_size _ rfl, rfl, rfl⟩ rfl ?_) rfl
    exact post_val_or_str ⟨Nat.le_trans (Txt.slice_le _ _ _) (lid_size hx), fun t' k => hQ _ _ (kp_mk fun b o e => Heap.get?_push_of_some _ e) (.str _ _)⟩
  · obtain ⟨l, h1, h⟩ := bd_ok h
    rw [dL_ok h1] at ha
    obtain ⟨hlo, h⟩ := if_ok h
    obtain ⟨i, h2, h⟩ := bd_ok h
    obtain ⟨e, h3, h2⟩ := bd_ok h2
    obtain ⟨hi2, h⟩ := if_ok h
    cases h
    obtain ⟨la, vs, n, rfl, p, hls⟩ := ha.lstI
    have hlen := hls.length
    have hIs := lst_isList p.1
    have pu : PartAt vu (some i) := hu.partI (by rw [h3]; exact congrArg (Option.map some) h2)
    have pl : PartAt vl none := hl.partI (by rw [Option.isNone_iff_eq_none.mp hlo]; rfl)
    have hn : i = (i.toNat : Int) := (Int.toNat_of_nonneg hi2.1).symm
    have hb : i.toNat ≤ vs.toArray.size := by rw [List.size_toArray, hlen]; exact hi2.2.1
    refine tail_any (T := "list") (hIs.push _).typeIs slot_list_getitem.lookup (wpAny_getItem_list_slice (lo := none) (hi := some i) (st := none) (hIs.push _) (Heap.IsSliceOf.new ..) pl.is pu.is .none (by simp) ?_ (by rw [List.size_toArray, hlen]; exact lid_size hi2.2.2)) rfl
    rw [hn, slicePick_upto vs.toArray i.toNat hb]
    have e9 : (vs.toArray.toList.take i.toNat).toArray = (vs.take i.toNat).toArray := rfl
    rw [e9]
    have h9 := Heap.get?_push_size (s.heap.push { cls := .type "slice", data := .fields #[vl, vu, .none] }) (o := lstObj (vs.take i.toNat) 0) rfl
    have k9 : ∀ b o, s.heap.get? b = some o → ((s.heap.push { cls := .type "slice", data := .fields #[vl, vu, .none] }).push (lstObj (vs.take i.toNat) 0)).get? b = some o := fun b o e => Heap.get?_push_of_some _ (Heap.get?_push_of_some _ e)
    have n9 : s.heap.get? (s.heap.push { cls := .type "slice", data := .fields #[vl, vu, .none] }).objs.size = none := by
      rw [Heap.size_push]
      cases e : s.heap.get? (s.heap.objs.size + 1) with
      | none => rfl
      | some o => exact absurd (Heap.lt_size e) (Nat.not_lt.mpr (Nat.le_succ _))
    generalize (s.heap.push { cls := .type "slice", data := .fields #[vl, vu, .none] }) = h1 at h9 k9 n9 ⊢
    have k : Keeps s { s with heap := h1.push (lstObj (vs.take i.toNat) 0) } := kp_mk k9
    exact hQ _ _ k (.lst (n := 0) (vs := vs.take i.toNat) (W.out_new n9 h9) ((kp_adv k ρ).lays (hls.take _)))
end
end Mine
end
section
open PySem PySem.W PySem.Calls PyProof.Rows PySem.Builtin PySem.Builtin.Str
set_option Elab.async false
set_option linter.unusedVariables false
namespace Mine

section
variable {prog : Program} {w : World} {A : Around} {E : Value → Shared → Prop} {s : Shared}
theorem split_push {x y : Str} {t u : Tok} {Q : Value → Shared → Prop} (hy : (y.length == 0) = false)
    (h : ∀ l k, l.map (·.1) = Txt.split x y → Q (.ref s.heap.objs.size) { s with heap := s.heap.push { cls := .type "list", data := .seq (strValues l).toArray }, toks := k }) (hsz : x.length + 2 ≤ sizeLine) :
    wpAny (model prog w) A (call (.builtin "str.split") [.str x t, .str y u]) Q E s := by
  have hn : (partsBetween x (occurrences x y 0 x.length (x.length + 1)) y.length).length ≤ sizeLine := by
    have e1 := StrLaws.occ_length_le x y 0 x.length (x.length + 1)
    rw [length_partsBetween]; omega
  cases h1 : (decide (x.length < y.length) || decide (strKind x < strKind y))
  · cases hf : (occurrences x y 0 x.length (x.length + 1)).isEmpty
    · refine call_meets F.slot_str_split (typeIs_str _ _ _) F.entry_str_split (F.args_str_split_2 _ _) (meets_str_split_sep x y t u h1 hy hf (by omega) hn) ?_
      show wants Q E _ { s with toks := _, heap := s.heap.push { cls := .type "list", data := .seq (strsFrom s.toks (partsBetween x (occurrences x y 0 x.length (x.length + 1)) y.length)).toArray } }
      rw [strsFrom_eq]
      exact h (numbered s.toks _) _ ((numbered_texts _ _).trans ((if_neg (ne_true_of_eq_false h1)).trans (if_neg (ne_true_of_eq_false hf))).symm)
    · exact call_meets F.slot_str_split (typeIs_str _ _ _) F.entry_str_split (F.args_str_split_2 _ _) (meets_str_split_not_found x y t u h1 hy hf)
        (h [(x, t)] s.toks ((if_neg (ne_true_of_eq_false h1)).trans (if_pos hf)).symm)
  · exact call_meets F.slot_str_split (typeIs_str _ _ _) F.entry_str_split (F.args_str_split_2 _ _) (meets_str_split_cannot_occur x y t u h1)
      (h [(x, t)] s.toks (if_pos h1).symm)
theorem lays_strs {P : Addr → Obj → Prop} {ρ : List Addr} : ∀ l : List (Str × Tok), Lays P ρ (strValues l) ((l.map (·.1)).map D.str)
  | [] => .nil
  | p :: r => .cons (.str _ _) (lays_strs r)

theorem preSum_sum (ns : List Int) : ∀ j, preSum (fun i => ns.getD i 0) j = (ns.take j).sum
  | 0 => by simp [preSum]
  | j + 1 => by
    rw [preSum, preSum_sum ns j, List.take_add_one, List.sum_append]
    congr 1
    cases e : ns[j]? <;> simp [List.getD_eq_getElem?_getD, e]
theorem sum_keeps {l : Addr} {vs : List Value} {ns : List Int} {Q : Value → Shared → Prop} (hh : A.handled = none) (hl : s.heap.IsList l vs.toArray) (hi : IntsAre vs ns)
    (h : ∀ h' tk t', (∀ b o, s.heap.get? b = some o → h'.get? b = some o) → Q (.int ns.sum t') { s with heap := h', toks := tk }) : wpAny (model prog w) A (call (.builtin "sum") [.ref l]) Q E s := by
  have hlt : l < s.heap.objs.size := by obtain ⟨_, e, _⟩ := hl; exact Heap.lt_size e
  refine call_sum_walkG (wpAny_pyIter_list hl ?_)
  refine ⟨s.heap.objs.size, [s.heap.objs.size, l], [s.heap.objs.size], vs.toArray.size, _, _, fun i => ns.getD i 0, rfl, Walks.list (A := A.in1) hh _ l (Nat.ne_of_lt hlt) vs.toArray,
    ⟨⟨_, Heap.get?_push_size _ rfl, rfl, rfl⟩, hl.push _⟩, ?_, ?_, ?_⟩
  · intro b hb
    show b < (s.heap.push _).objs.size
    rw [Heap.size_push]
    rcases List.mem_cons.mp hb with rfl | hb
    · exact Nat.lt_succ_self _
    · rw [List.mem_singleton.mp hb]; exact Nat.lt_succ_of_lt hlt
  · intro i v hv
    have hv' : vs[i]? = some v := by simpa using hv
    have hi' : i < ns.length := by rw [← hi.length]; exact (List.getElem?_eq_some_iff.mp hv').1
    obtain ⟨t, hx⟩ := hi.get i (ns[i]'hi') (List.getElem?_eq_getElem hi')
    rw [hx] at hv'
    cases hv'
    exact ⟨t, by simp [List.getD_eq_getElem?_getD, hi']⟩
  · intro h' tk t' hk
    rw [preSum_sum, List.size_toArray, hi.length, List.take_length]
    exact h h' tk t' fun b o e => hk b o (by rw [List.mem_singleton]; exact Nat.ne_of_lt (Heap.lt_size e)) (Heap.get?_push_of_some _ e)

theorem min_is {ns : List Int} {M m : Int} (h : ns.min? = some m) (h1 : M ∈ ns) (h2 : ∀ a ∈ ns, M ≤ a) : M = m := by
  obtain ⟨q1, q2⟩ := List.min?_eq_some_iff.mp h
  exact Int.le_antisymm (h2 _ q1) (q2 _ h1)
theorem max_is {ns : List Int} {M m : Int} (h : ns.max? = some m) (h1 : M ∈ ns) (h2 : ∀ a ∈ ns, a ≤ M) : M = m := by
  obtain ⟨q1, q2⟩ := List.max?_eq_some_iff.mp h
  exact Int.le_antisymm (q2 _ h1) (h2 _ q1)
theorem min_keeps {l : Addr} {vs : List Value} {ns : List Int} {m : Int} {Q : Value → Shared → Prop} (hh : A.handled = none) (hl : s.heap.IsList l vs.toArray) (hi : IntsAre vs ns) (hm : ns.min? = some m)
    (h : ∀ h' tk t', (∀ b o, s.heap.get? b = some o → h'.get? b = some o) → Q (.int m t') { s with heap := h', toks := tk }) : wpAny (model prog w) A (call (.builtin "min") [.ref l]) Q E s := by
  have hne : 0 < ns.length := by cases ns with | nil => simp at hm | cons => simp
  obtain ⟨xs, e⟩ := hi.allInts.items
  have hns : ns = xs.toList.map (·.1) := by rw [← hi.numsOf, ← nums_intItems, ← e]
  have hsz : 0 < xs.size := by have h3 := hne; rw [hns, List.length_map, Array.length_toList] at h3; exact h3
  rw [e] at hl
  refine min_intList hh hl hsz fun v h' tk hv hk => ?_
  obtain ⟨t, rfl⟩ := intItems_at hv
  obtain ⟨h1, h2⟩ := argBest_lt (numAt xs) (xs.size - 1)
  have hM := min_is (M := numAt xs (argBest (fun i j => decide (numAt xs i < numAt xs j)) (xs.size - 1))) hm (by rw [hns, numAt_eq]; exact PySem.getD_mem (by rw [List.length_map, Array.length_toList]; omega)) (fun a ha => by
    rw [hns] at ha
    obtain ⟨j, hj, rfl⟩ := mem_getD ha
    rw [List.length_map, Array.length_toList] at hj
    rw [← numAt_eq]; exact h2 j (by omega))
  rw [hM]
  exact h h' tk t hk
theorem max_keeps {l : Addr} {vs : List Value} {ns : List Int} {m : Int} {Q : Value → Shared → Prop} (hh : A.handled = none) (hl : s.heap.IsList l vs.toArray) (hi : IntsAre vs ns) (hm : ns.max? = some m)
    (h : ∀ h' tk t', (∀ b o, s.heap.get? b = some o → h'.get? b = some o) → Q (.int m t') { s with heap := h', toks := tk }) : wpAny (model prog w) A (call (.builtin "max") [.ref l]) Q E s := by
  have hne : 0 < ns.length := by cases ns with | nil => simp at hm | cons => simp
  obtain ⟨xs, e⟩ := hi.allInts.items
  have hns : ns = xs.toList.map (·.1) := by rw [← hi.numsOf, ← nums_intItems, ← e]
  have hsz : 0 < xs.size := by have h3 := hne; rw [hns, List.length_map, Array.length_toList] at h3; exact h3
  rw [e] at hl
  refine max_intList hh hl hsz fun v h' tk hv hk => ?_
  obtain ⟨t, rfl⟩ := intItems_at hv
  obtain ⟨h1, h2⟩ := argBest_gt (numAt xs) (xs.size - 1)
  have hM := max_is (M := numAt xs (argBest (fun i j => decide (numAt xs i > numAt xs j)) (xs.size - 1))) hm (by rw [hns, numAt_eq]; exact PySem.getD_mem (by rw [List.length_map, Array.length_toList]; omega)) (fun a ha => by
    rw [hns] at ha
    obtain ⟨j, hj, rfl⟩ := mem_getD ha
    rw [List.length_map, Array.length_toList] at hj
    rw [← numAt_eq]; exact h2 j (by omega))
  rw [hM]
  exact h h' tk t hk

theorem max3_num {a b d : Value} {Q : Value → Shared → Prop} (hh : A.handled = none) (ha : Flt.NumV a) (hb : Flt.NumV b) (hd : Flt.NumV d)
    (h : ∀ h' tk, (∀ c o, s.heap.get? c = some o → h'.get? c = some o) → Q (if Flt.ltV (if Flt.ltV a b then b else a) d then d else if Flt.ltV a b then b else a) { s with heap := h', toks := tk }) :
    wpAny (model prog w) A (call (.builtin "max") [a, b, d]) Q E s := by
  have hT : (s.heap.push { cls := .type "tuple", data := .seq #[a, b, d] }).IsTuple s.heap.objs.size #[a, b, d] := ⟨_, Heap.get?_push_size _ rfl, rfl, 0, rfl⟩
  refine call_max_three (wpAny_pyIter_tuple hT ?_)
  have hsz : (s.heap.push { cls := .type "tuple", data := .seq #[a, b, d] }).objs.size = s.heap.objs.size + 1 := Heap.size_push ..
  refine ⟨_, [_, s.heap.objs.size], [_], _, _, _, _, rfl, Walks.tuple (A := A.in1) hh _ s.heap.objs.size (by rw [hsz]; exact Nat.ne_of_lt (Nat.lt_succ_self _)) #[a, b, d],
    ⟨⟨_, Heap.get?_push_size _ rfl, rfl, rfl⟩, hT.push _⟩, fun c hc => ?_, by simp, Flt.cmpOf_gt #[a, b, d] (by simp [ha, hb, hd]), fun v h' tk hP hk => ?_⟩
  · show c < ((s.heap.push _).push _).objs.size
    rw [Heap.size_push, hsz]
    rcases List.mem_cons.mp hc with rfl | hc
    · rw [hsz]; exact Nat.lt_succ_self _
    · rcases List.mem_cons.mp hc with rfl | hc
      · exact Nat.lt_succ_of_lt (Nat.lt_succ_self _)
      · cases hc
  · have hold : ∀ c o, s.heap.get? c = some o → h'.get? c = some o := fun c o e => by
      refine hk c o (fun hm => ?_) (Heap.get?_push_of_some _ (Heap.get?_push_of_some _ e))
      rcases List.mem_cons.mp hm with e1 | hm
      · have := Heap.lt_size e; rw [e1, hsz] at this; exact Nat.lt_irrefl _ (Nat.lt_of_succ_lt this)
      · cases hm
    have := h h' tk hold
    have hv : v = if Flt.ltV (if Flt.ltV a b then b else a) d then d else if Flt.ltV a b then b else a := by
      cases hc : Flt.ltV a b
      · cases hc2 : Flt.ltV a d <;> simp [argBest, hc, hc2] at hP <;> simp only [Bool.false_eq_true, if_false, if_true, hc2] <;> exact hP.symm
      · cases hc2 : Flt.ltV b d <;> simp [argBest, hc, hc2] at hP <;> simp only [Bool.false_eq_true, if_false, if_true, hc2] <;> exact hP.symm
    rw [hv]; exact this
theorem min3_num {a b d : Value} {Q : Value → Shared → Prop} (hh : A.handled = none) (ha : Flt.NumV a) (hb : Flt.NumV b) (hd : Flt.NumV d)
    (h : ∀ h' tk, (∀ c o, s.heap.get? c = some o → h'.get? c = some o) → Q (if Flt.ltV d (if Flt.ltV b a then b else a) then d else if Flt.ltV b a then b else a) { s with heap := h', toks := tk }) :
    wpAny (model prog w) A (call (.builtin "min") [a, b, d]) Q E s := by
  have hT : (s.heap.push { cls := .type "tuple", data := .seq #[a, b, d] }).IsTuple s.heap.objs.size #[a, b, d] := ⟨_, Heap.get?_push_size _ rfl, rfl, 0, rfl⟩
  refine call_min_three (wpAny_pyIter_tuple hT ?_)
  have hsz : (s.heap.push { cls := .type "tuple", data := .seq #[a, b, d] }).objs.size = s.heap.objs.size + 1 := Heap.size_push ..
  refine ⟨_, [_, s.heap.objs.size], [_], _, _, _, _, rfl, Walks.tuple (A := A.in1) hh _ s.heap.objs.size (by rw [hsz]; exact Nat.ne_of_lt (Nat.lt_succ_self _)) #[a, b, d],
    ⟨⟨_, Heap.get?_push_size _ rfl, rfl, rfl⟩, hT.push _⟩, fun c hc => ?_, by simp, Flt.cmpOf_lt #[a, b, d] (by simp [ha, hb, hd]), fun v h' tk hP hk => ?_⟩
  · show c < ((s.heap.push _).push _).objs.size
    rw [Heap.size_push, hsz]
    rcases List.mem_cons.mp hc with rfl | hc
    · rw [hsz]; exact Nat.lt_succ_self _
    · rcases List.mem_cons.mp hc with rfl | hc
      · exact Nat.lt_succ_of_lt (Nat.lt_succ_self _)
      · cases hc
  · have hold : ∀ c o, s.heap.get? c = some o → h'.get? c = some o := fun c o e => by
      refine hk c o (fun hm => ?_) (Heap.get?_push_of_some _ (Heap.get?_push_of_some _ e))
      rcases List.mem_cons.mp hm with e1 | hm
      · have := Heap.lt_size e; rw [e1, hsz] at this; exact Nat.lt_irrefl _ (Nat.lt_of_succ_lt this)
      · cases hm
    have := h h' tk hold
    have hv : v = if Flt.ltV d (if Flt.ltV b a then b else a) then d else if Flt.ltV b a then b else a := by
      cases hc : Flt.ltV b a
      · cases hc2 : Flt.ltV d a <;> simp [argBest, hc, hc2] at hP <;> simp only [Bool.false_eq_true, if_false, if_true, hc2] <;> exact hP.symm
      · cases hc2 : Flt.ltV d b <;> simp [argBest, hc, hc2] at hP <;> simp only [Bool.false_eq_true, if_false, if_true, hc2] <;> exact hP.symm
    rw [hv]; exact this
end

noncomputable def Fn.val : Fn → Value
  | .len => .builtin "len"
  | .minL | .min2 | .min3 => .builtin "min"
  | .maxL | .max2 | .max3 => .builtin "max"
  | .intF => .type "int"
  | .sumL => .builtin "sum"
  | .range1 => .type "range"
noncomputable def Fn.name : Fn → Str
  | .len => "len"
  | .minL | .min2 | .min3 => "min"
  | .maxL | .max2 | .max3 => "max"
  | .intF => "int"
  | .sumL => "sum"
  | .range1 => "range"
noncomputable def Me.val : Me → String
  | .count => "str.count"
  | .index => "str.index"
  | .join => "str.join"
  | .split => "str.split"
noncomputable def Me.name : Me → Str
  | .count => "count"
  | .index => "index"
  | .join => "join"
  | .split => "split"

section
variable {c : Cx} {A : Around} {fm ρ : List Addr} {st : Store} {s : Shared} {a b : Value} {x y d : D} {n : Nat}

theorem op_keeps {t : Sem Value} {d : D} (W : Wf c fm ρ st s)
    (h : ∀ Q : Value → Shared → Prop, (∀ v h' tk, (∀ b o, s.heap.get? b = some o → h'.get? b = some o) → (∀ P : Addr → Obj → Prop, Lay P ρ v d) → Q v { s with heap := h', toks := tk }) → wpAny (model c.prog c.w) A t Q (fun _ _ => False) s) : Op c A t fm ρ d s :=
  fun Q hQ => h Q fun v h' tk k l => hQ v _ (kp_mk k) (l _)
theorem len_ok {l : List D} (h : ListAt s.heap (fm ++ ρ) ρ a l) (hn : l.length ≤ lid) : Op c A (call (.builtin "len") [a]) fm ρ (.int l.length) s := by
  obtain ⟨l', vs, rfl, ho, hl⟩ := h.ex
  have e : lid = 1048576 := rfl
  refine op_int fun Q hQ => call_len_list ho ?_ ?_
  · rw [List.size_toArray, hl.length]; omega
  · rw [List.size_toArray, hl.length]; exact hQ _ _

end
end Mine
end
section
open PySem PySem.W PySem.Calls PyProof.Rows PySem.Builtin PySem.Builtin.Str
set_option Elab.async false
set_option linter.unusedVariables false
namespace Mine
section
variable {c : Cx} {A : Around} {fm ρ : List Addr} {st : Store} {s : Shared} {a b : Value} {x y d : D} {n : Nat}

theorem lays1 {P : Addr → Obj → Prop} {ρ : List Addr} {vs : List Value} {d : D} (h : Lays P ρ vs [d]) : ∃ v, vs = [v] ∧ Lay P ρ v d := by
  obtain ⟨v, us, rfl, p, r⟩ := h.consI; rw [r.nilI]; exact ⟨_, rfl, p⟩
theorem lays2 {P : Addr → Obj → Prop} {ρ : List Addr} {vs : List Value} {d e : D} (h : Lays P ρ vs [d, e]) : ∃ v u, vs = [v, u] ∧ Lay P ρ v d ∧ Lay P ρ u e := by
  obtain ⟨v, us, rfl, p, r⟩ := h.consI; obtain ⟨u, rfl, q⟩ := lays1 r; exact ⟨_, _, rfl, p, q⟩
theorem lays3 {P : Addr → Obj → Prop} {ρ : List Addr} {vs : List Value} {d e f : D} (h : Lays P ρ vs [d, e, f]) : ∃ v u w, vs = [v, u, w] ∧ Lay P ρ v d ∧ Lay P ρ u e ∧ Lay P ρ w f := by
  obtain ⟨v, us, rfl, p, r⟩ := h.consI; obtain ⟨u, w, rfl, q⟩ := lays2 r; exact ⟨_, _, _, rfl, p, q⟩

theorem len_okF (W : Wf c fm ρ st s) (ha : LO fm ρ s a x) (h : lenF st x = some d) : Op c A (call (.builtin "len") [a]) fm ρ d s := by
  rcases orP_ok h with h | h
  · obtain ⟨z, h1, h⟩ := bd_ok h
    rw [dS_ok h1] at ha
    obtain ⟨u, rfl⟩ := ha.strI
    obtain ⟨hl, rfl⟩ := leP_ok h
    have e : lid = 1048576 := rfl
    exact op_int fun Q hQ => len_str (by omega) (hQ _ _)
  · obtain ⟨l, h1, h⟩ := bd_ok h
    obtain ⟨hl, rfl⟩ := leP_ok h
    exact len_ok (listAt_of W ha h1) hl
theorem fl3_at {P : Addr → Obj → Prop} {ρ : List Addr} {f : UInt64 → UInt64 → UInt64 → UInt64} {q : D × D × D} {vs : List Value} (hs : Lays P ρ vs [q.1, q.2.1, q.2.2]) (h : fl3 f q = some d) : ∃ i j k t u v, vs = [.float i t, .float j u, .float k v] ∧ d = .flt (f i j k) := by
  obtain ⟨i, h1, h⟩ := bd_ok h
  obtain ⟨j, h2, h⟩ := bd_ok h
  obtain ⟨k, h3, h⟩ := mp_ok h
  rw [dF_ok h1, dF_ok h2, dF_ok h3] at hs
  obtain ⟨_, _, _, rfl, ha, hb, hc⟩ := lays3 hs
  obtain ⟨t, rfl⟩ := ha.fltI
  obtain ⟨u, rfl⟩ := hb.fltI
  obtain ⟨v, rfl⟩ := hc.fltI
  exact ⟨_, _, _, _, _, _, rfl, h.symm⟩
theorem flt_pick {b : Bool} {q r : UInt64} {t u : Tok} (P : Addr → Obj → Prop) : Lay P ρ (if b = true then .float q t else .float r u) (.flt (if b = true then q else r)) := by
  cases b <;> exact .flt _ _
theorem max3_ok {vs : List Value} {q : D × D × D} (R : Rm n A) (W : Wf c fm ρ st s) (hs : Lays (Out (fm ++ ρ) s.heap) ρ vs [q.1, q.2.1, q.2.2]) (h : fl3 maxF q = some d) : Op c A (call (.builtin "max") vs) fm ρ d s := by
  obtain ⟨a, b, e, t, u, v, rfl, rfl⟩ := fl3_at hs h
  refine op_keeps W fun Q hQ => max3_num R.1 (.float _ _) (.float _ _) (.float _ _) fun h' tk k => hQ _ _ _ k fun P => ?_
  unfold maxF
  cases hc : Flt.ltV (.float a t) (.float b u)
  · have hc' : flt a b = false := hc
    rw [hc']
    exact flt_pick (b := flt a e) P
  · have hc' : flt a b = true := hc
    rw [hc']
    exact flt_pick (b := flt b e) P
theorem min3_ok {vs : List Value} {q : D × D × D} (R : Rm n A) (W : Wf c fm ρ st s) (hs : Lays (Out (fm ++ ρ) s.heap) ρ vs [q.1, q.2.1, q.2.2]) (h : fl3 minF q = some d) : Op c A (call (.builtin "min") vs) fm ρ d s := by
  obtain ⟨a, b, e, t, u, v, rfl, rfl⟩ := fl3_at hs h
  refine op_keeps W fun Q hQ => min3_num R.1 (.float _ _) (.float _ _) (.float _ _) fun h' tk k => hQ _ _ _ k fun P => ?_
  unfold minF
  cases hc : Flt.ltV (.float b u) (.float a t)
  · have hc' : flt b a = false := hc
    rw [hc']
    exact flt_pick (b := flt e a) P
  · have hc' : flt b a = true := hc
    rw [hc']
    exact flt_pick (b := flt e b) P
theorem int_pick {p : Prop} [Decidable p] {q r : Int} {t u : Tok} (P : Addr → Obj → Prop) : Lay P ρ (if p then .int q t else .int r u) (.int (if p then q else r)) := by
  split <;> exact .int _ _
theorem fnP_ok {f : Fn} {vs : List Value} {ds : List D} (R : Rm n A) (W : Wf c fm ρ st s) (hs : Lays (Out (fm ++ ρ) s.heap) ρ vs ds) (h : fnP st f ds = some d) : Op c A (call f.val vs) fm ρ d s := by
  cases f with
  | len =>
    obtain ⟨z, h1, h⟩ := bd_ok h
    rw [un1_ok h1] at hs
    obtain ⟨_, rfl, ha⟩ := lays1 hs
    exact len_okF W ha h
  | minL =>
    obtain ⟨z, h1, h⟩ := bd_ok h
    rw [un1_ok h1] at hs
    obtain ⟨_, rfl, ha⟩ := lays1 hs
    obtain ⟨l, h2, h⟩ := bd_ok h
    obtain ⟨ns, e1, h⟩ := bd_ok h
    obtain ⟨m, e2, rfl⟩ := mp_ok h
    obtain ⟨l', vs, rfl, ho, hl⟩ := (listAt_of W ha h2).ex
    exact op_keeps W fun Q hQ => min_keeps R.1 ho (hl.ints e1) e2 fun h' tk t' k => hQ _ _ _ k fun P => .int _ _
  | maxL =>
    obtain ⟨z, h1, h⟩ := bd_ok h
    rw [un1_ok h1] at hs
    obtain ⟨_, rfl, ha⟩ := lays1 hs
    obtain ⟨l, h2, h⟩ := bd_ok h
    obtain ⟨ns, e1, h⟩ := bd_ok h
    obtain ⟨m, e2, rfl⟩ := mp_ok h
    obtain ⟨l', vs, rfl, ho, hl⟩ := (listAt_of W ha h2).ex
    exact op_keeps W fun Q hQ => max_keeps R.1 ho (hl.ints e1) e2 fun h' tk t' k => hQ _ _ _ k fun P => .int _ _
  | min2 =>
    obtain ⟨z, h1, h⟩ := bd_ok h
    rw [un2_ok h1] at hs
    obtain ⟨_, _, rfl, ha, hb⟩ := lays2 hs
    obtain ⟨i, j, t, u, rfl, rfl, h⟩ := ii_at ha hb h
    cases h
    refine op_keeps W fun Q hQ => Flt.min_two_num R.1 (.int _ _) (.int _ _) fun h' tk k => hQ _ _ _ k fun P => ?_
    simp only [Flt.ltV, decide_eq_true_eq]
    exact int_pick P
  | max2 =>
    obtain ⟨z, h1, h⟩ := bd_ok h
    rw [un2_ok h1] at hs
    obtain ⟨_, _, rfl, ha, hb⟩ := lays2 hs
    obtain ⟨i, j, t, u, rfl, rfl, h⟩ := ii_at ha hb h
    cases h
    refine op_keeps W fun Q hQ => Flt.max_two_num R.1 (.int _ _) (.int _ _) fun h' tk k => hQ _ _ _ k fun P => ?_
    simp only [Flt.ltV, decide_eq_true_eq]
    exact int_pick P
  | max3 =>
    obtain ⟨q, h1, h⟩ := bd_ok h
    rw [un3_ok h1] at hs
    exact max3_ok R W hs h
  | min3 =>
    obtain ⟨q, h1, h⟩ := bd_ok h
    rw [un3_ok h1] at hs
    exact min3_ok R W hs h
  | intF =>
    obtain ⟨z, h1, h⟩ := bd_ok h
    rw [un1_ok h1] at hs
    obtain ⟨_, rfl, ha⟩ := lays1 hs
    obtain ⟨x, h2, h⟩ := bd_ok h
    rw [dF_ok h2] at ha
    obtain ⟨t, rfl⟩ := ha.fltI
    cases hd : Float64.decode x with
    | fin sg m e => rw [hd] at h; cases h; exact op_int fun Q hQ => call_int_float hd (hQ _ _)
    | _ => rw [hd] at h; exact bad h
  | sumL =>
    obtain ⟨z, h1, h⟩ := bd_ok h
    rw [un1_ok h1] at hs
    obtain ⟨_, rfl, ha⟩ := lays1 hs
    obtain ⟨l, h2, h⟩ := bd_ok h
    obtain ⟨ns, e1, rfl⟩ := mp_ok h
    obtain ⟨l', vs, rfl, ho, hl⟩ := (listAt_of W ha h2).ex
    exact op_keeps W fun Q hQ => sum_keeps R.1 ho (hl.ints e1) fun h' tk t' k => hQ _ _ _ k fun P => .int _ _
  | range1 =>
    obtain ⟨z, h1, h⟩ := bd_ok h
    rw [un1_ok h1] at hs
    obtain ⟨_, rfl, ha⟩ := lays1 hs
    obtain ⟨x, h2, h⟩ := bd_ok h
    rw [dI_ok h2] at ha
    obtain ⟨t, rfl⟩ := ha.intI
    obtain ⟨_, rfl⟩ := leP_ok h
    exact fun Q hQ => call_range_1 (hQ _ _ (kp_mk fun b o e => Heap.get?_push_of_some _ e) (.rng (W.out_new (size_none _) (Heap.get?_push_size _ rfl))))

theorem meP_ok {m : Me} {vs : List Value} {ds : List D} {X : Str} {t : Tok} (W : Wf c fm ρ st s) (hs : Lays (Out (fm ++ ρ) s.heap) ρ vs ds) (h : meP st m (.str X) ds = some d) : Op c A (call (.builtin m.val) (.str X t :: vs)) fm ρ d s := by
  obtain ⟨X', h1, h⟩ := bd_ok h
  cases h1
  obtain ⟨z, h1, h⟩ := bd_ok h
  rw [un1_ok h1] at hs
  obtain ⟨_, rfl, ha⟩ := lays1 hs
  cases m with
  | count =>
    obtain ⟨y, h2, rfl⟩ := mp_ok h
    rw [dS_ok h2] at ha
    obtain ⟨u, rfl⟩ := ha.strI
    exact op_int fun Q hQ => SC.count (hQ _ _)
  | index =>
    obtain ⟨y, h2, h⟩ := bd_ok h
    rw [dS_ok h2] at ha
    obtain ⟨u, rfl⟩ := ha.strI
    obtain ⟨hc, h⟩ := if_ok h
    cases h
    refine op_int fun Q hQ => ?_
    unfold Txt.contains at hc
    unfold Txt.find at hQ
    cases ho : occurrences X y 0 X.length 1 with
    | nil => rw [ho] at hc; cases hc
    | cons i r => rw [ho] at hQ; exact SC.index ho (hQ _ _)
  | join =>
    obtain ⟨l, h2, h⟩ := bd_ok h
    obtain ⟨t, e1, h⟩ := bd_ok h
    obtain ⟨hok, h⟩ := if_ok h
    cases h
    obtain ⟨l', vs, rfl, ho, hl⟩ := (listAt_of W ha h2).ex
    obtain ⟨l, rfl, ht⟩ := hl.strs e1
    exact op_str fun Q hQ => SC.join ho ht hok hQ
  | split =>
    obtain ⟨y, h2, h⟩ := bd_ok h
    rw [dS_ok h2] at ha
    obtain ⟨u, rfl⟩ := ha.strI
    obtain ⟨hy, h⟩ := if_ok h
    cases h
    intro Q hQ
    refine split_push (by simpa using hy.1) (fun l k e => hQ _ _ (kp_mk fun b o e => Heap.get?_push_of_some _ e) ?_) (Nat.le_trans hy.2 (by decide))
    rw [← e]
    exact .lst (n := 0) (W.out_new (size_none _) (Heap.get?_push_size _ rfl)) (lays_strs l)
end
end Mine
end
section
open PySem PySem.W PySem.Calls PyProof.Rows
set_option Elab.async false
set_option linter.unusedVariables false
namespace Mine

noncomputable def nsl : Expr → Bool
  | .Slice .. => false
  | .Starred .. => false
  | _ => true
theorem nsl_sub {e : Expr} (h : nsl e = true) (o i : Value) : subscripted e false o i = operate [o, i] (getItem o i) := by
  cases e <;> first | rfl | (simp [nsl] at h)
theorem nsl_star {e : Expr} (h : nsl e = true) (rest : List Expr) (env : Env) : starEach (e :: rest) env = (false, eval e env) :: starEach rest env := by
  cases e <;> first | rfl | (simp [nsl] at h)
theorem nsl_mark {e : Expr} {op : CmpOp} (h : (match e with | .Set .. => false | _ => true) = true) : behindInMarks op e = false := by
  cases e <;> first | rfl | (simp at h)
noncomputable def nset : Expr → Bool
  | .Set .. => false
  | _ => true

section
variable {c : Cx} {A : Around} {kd : Str → Option NameKind} {sc : List (Str × Nat)} {σ : Vars} {st st₁ st₂ st₃ : Store} {x y d : D} {n : Nat} {pos : Pos}

theorem e_op {t : Value → Value → Sem Value} {a b : Expr} {e : Expr} (ha : EvE c A kd sc a σ st x st₁) (hb : EvE c A kd sc b σ st₁ y st₂)
    (hr : ∀ env s Q, wpAny (model c.prog c.w) A (eval a env) (fun va s₁ => wpAny (model c.prog c.w) A (eval b env) (fun vb s₂ => wpAny (model c.prog c.w) A (t va vb) Q (fun _ _ => False) s₂) (fun _ _ => False) s₁) (fun _ _ => False) s → wpAny (model c.prog c.w) A (eval e env) Q (fun _ _ => False) s)
    (ho : ∀ fm ρ s va vb, Wf c fm ρ st₂ s → Lay (Out (fm ++ ρ) s.heap) ρ va x → Lay (Out (fm ++ ρ) s.heap) ρ vb y → Op c A (t va vb) fm ρ d s) : EvE c A kd sc e σ st d st₂ := by
  intro env fm ρ s F W V Q hQ
  refine hr env s Q (ha env fm ρ s F W V _ fun va s1 ρ1 W1 A1 la => hb env fm ρ1 s1 (F.adv W A1) W1 (V.adv F W A1) _ fun vb s2 ρ2 W2 A2 lb =>
    ho fm ρ2 s2 va vb W2 (A2.lay la) lb _ fun v s3 k l => hQ v s3 ρ2 (W2.keeps k) (A1.trans (A2.trans (kp_adv k ρ2))) l)

theorem e_bin {op : Operator} {a b : Expr} (ha : EvE c A kd sc a σ st x st₁) (hb : EvE c A kd sc b σ st₁ y st₂) (h : binP op x y = some d) : EvE c A kd sc (.BinOp a op b pos) σ st d st₂ :=
  e_op ha hb (fun env s Q => wpAny_BinOp) fun fm ρ s va vb W la lb => binP_ok la lb h
theorem e_cmp {op : CmpOp} {a b : Expr} {r : Bool} (R : Rm n A) (hn : nset b = true) (ha : EvE c A kd sc a σ st x st₁) (hb : EvE c A kd sc b σ st₁ y st₂) (h : cmpP st₂ op x y = some r) : EvE c A kd sc (.Compare a [op] [b] pos) σ st (.bool r) st₂ :=
  e_op ha hb (fun env s Q hw => wpAny_Compare1 hw (nsl_mark hn)) fun fm ρ s va vb W la lb => cmpP_ok R la lb h
theorem e_idx {a b : Expr} (hn : nsl b = true) (ha : EvE c A kd sc a σ st x st₁) (hb : EvE c A kd sc b σ st₁ y st₂) (h : idxP st₂ x y = some d) : EvE c A kd sc (.Subscript a b pos) σ st d st₂ :=
  e_op ha hb (fun env s Q => Subscript_) fun fm ρ s va vb W la lb => idxP_ok W la lb h (nsl_sub hn _ _)
theorem e_neg {a : Expr} {i : Int} (ha : EvE c A kd sc a σ st (.int i) st₁) : EvE c A kd sc (.UnaryOp .USub a pos) σ st (.int (-i)) st₁ := by
  intro env fm ρ s F W V Q hQ
  exact wpAny_UnaryOp (ha env fm ρ s F W V _ fun va s1 ρ1 W1 A1 la => neg_ok la _ fun v s3 k l => hQ v s3 ρ1 (W1.keeps k) (A1.trans (kp_adv k ρ1)) l)
theorem e_ite {t a b : Expr} {r : Bool} (ht : EvT c A kd sc t σ st r st₁) (ha : EvE c A kd sc (if r = true then a else b) σ st₁ d st₂) : EvE c A kd sc (.IfExp t a b pos) σ st d st₂ := by
  intro env fm ρ s F W V Q hQ
  refine wpAny_IfExp (ht env fm ρ s F W V _ fun s1 ρ1 W1 A1 => ?_)
  have := ha env fm ρ1 s1 (F.adv W A1) W1 (V.adv F W A1) Q fun v s2 ρ2 W2 A2 l => hQ v s2 ρ2 W2 (A1.trans A2) l
  cases r <;> exact this

/-- constants -/
noncomputable def cst : Const → Option D
  | .none => some .none
  | .bool b => some (.bool b)
  | .int i => some (.int i)
  | .float b => some (.flt b)
  | .str x => some (.str x)
  | _ => .none
theorem e_lit {k : Const} {j : Nat} (h : cst k = some d) : EvE c A kd sc (.Constant k j pos) σ st d st := by
  intro env fm ρ s F W V Q hQ
  have kt := kp_tok s (s.toks + 1)
  unfold cst at h
  split at h <;> cases h
  · exact wpAny_Constant_none (hQ _ _ ρ W (Adv.refl _ _) .none)
  · exact wpAny_Constant_bool (hQ _ _ ρ W (Adv.refl _ _) (.bool _))
  · exact wpAny_Constant_int (hQ _ _ ρ (W.keeps kt) (kp_adv kt ρ) (.int _ _))
  · exact wpAny_Constant_float (hQ _ _ ρ (W.keeps kt) (kp_adv kt ρ) (.flt _ _))
  · exact wpAny_Constant_str (hQ _ _ ρ (W.keeps kt) (kp_adv kt ρ) (.str _ _))

noncomputable def okName (x : Str) : Bool := !(x == ("__debug__" : Str)) && !(x == ("__classdict__" : Str))
theorem load_ok {env : Env} {fm : List Addr} {s : Shared} {x : Str} {v : Value} {Q : Value → Shared → Prop} (F : Fm kd sc env fm s.heap) (hx : okName x = true) (h : VarAt env s.heap x v) (hQ : Q v s) :
    wpAny (model c.prog c.w) A (loadName env x) Q (fun _ _ => False) s := by
  simp only [okName, Bool.and_eq_true, Bool.not_eq_true'] at hx
  rcases h with ⟨k, m, hn, hm⟩ | ⟨k, cc, hc, hv⟩
  · exact wpAny_loadName_local F.kind k hn hm hQ
  · rcases k with k | k
    · exact wpAny_loadName_cell F.kind k hc hv hQ
    · exact wpAny_loadName_free F.kind k hc hv hQ hx.2
theorem e_var {x : Str} {i : Nat} (hx : okName x = true) (hs : (x, i) ∈ sc) (h : σ.get i = some d) : EvE c A kd sc (.Name x pos) σ st d st := by
  intro env fm ρ s F W V Q hQ
  have hd : (x == ("__debug__" : Str)) = false := by simp only [okName, Bool.and_eq_true, Bool.not_eq_true'] at hx; exact hx.1
  obtain ⟨v, hv, l⟩ := V _ hs d h
  exact wpAny_Name (load_ok F hx hv (hQ v s ρ W (Adv.refl _ _) l)) hd

/-- lists of expressions -/
noncomputable def EvL (c : Cx) (A : Around) (kd : Str → Option NameKind) (sc : List (Str × Nat)) (l : List Expr) (σ : Vars) (st : Store) (ds : List D) (st' : Store) : Prop :=
  ∀ (pos : Pos) (env : Env) (fm ρ : List Addr) (s : Shared), Fm kd sc env fm s.heap → Wf c fm ρ st s → Vr sc env fm ρ σ s.heap →
    ∀ Q : List Value → Shared → Prop, (∀ v s' ρ', Wf c fm ρ' st' s' → Adv ρ ρ' s s' → Lays (Out (fm ++ ρ') s'.heap) ρ' v ds → Q v s') →
      wpAny (model c.prog c.w) A (spliced (backTo pos (starEach l env))) Q (fun _ _ => False) s
theorem l_nil : EvL c A kd sc [] σ st [] st := fun pos env fm ρ s F W V Q hQ => wpAny_items_nil (hQ _ _ ρ W (Adv.refl _ _) .nil)
theorem l_cons {e : Expr} {r : List Expr} {ds : List D} (hn : nsl e = true) (he : EvE c A kd sc e σ st d st₁) (hr : EvL c A kd sc r σ st₁ ds st₂) : EvL c A kd sc (e :: r) σ st (d :: ds) st₂ := by
  intro pos env fm ρ s F W V Q hQ
  refine wpAny_items_cons (he env fm ρ s F W V _ fun v s1 ρ1 W1 A1 l => hr pos env fm ρ1 s1 (F.adv W A1) W1 (V.adv F W A1) _ fun vs s2 ρ2 W2 A2 ls => hQ _ _ ρ2 W2 (A1.trans A2) (.cons (A2.lay l) ls)) (nsl_star hn _ _)
theorem push_new {fm ρ : List Addr} {s : Shared} {o : Obj} (W : Wf c fm ρ st s) (ho : o.isFreed = false := by rfl) : Out (fm ++ ρ) (s.heap.push o) s.heap.objs.size o :=
  W.out_new (s := s) (s' := { s with heap := s.heap.push o }) (size_none _) (Heap.get?_push_size _ ho)
theorem e_tup {l : List Expr} {j : Nat} {ds : List D} (h : EvL c A kd sc l σ st ds st₁) (hn : l.length ≤ lid) (hl : ds.length = l.length) : EvE c A kd sc (.Tuple l j pos) σ st (.tup ds) st₁ := by
  intro env fm ρ s F W V Q hQ
  refine wpAny_Tuple (h pos env fm ρ s F W V _ fun vs s1 ρ1 W1 A1 ls => ⟨by rw [ls.length, hl]; exact lid_size hn, ?_⟩)
  have k := kp_push s1 (tupObj vs 0)
  exact hQ _ _ ρ1 (W1.keeps k) (A1.trans (kp_adv k ρ1)) (.tup (n := 0) (push_new W1) ((kp_adv k ρ1).lays ls))
theorem e_lst {l : List Expr} {ds : List D} (h : EvL c A kd sc l σ st ds st₁) (hn : l.length ≤ lid) (hl : ds.length = l.length) : EvE c A kd sc (.List l pos) σ st (.lst ds) st₁ := by
  intro env fm ρ s F W V Q hQ
  refine wpAny_List (h pos env fm ρ s F W V _ fun vs s1 ρ1 W1 A1 ls => ⟨by rw [ls.length, hl]; exact lid_size hn, ?_⟩)
  have k := kp_push s1 (lstObj vs 0)
  exact hQ _ _ ρ1 (W1.keeps k) (A1.trans (kp_adv k ρ1)) (.lst (n := 0) (push_new W1) ((kp_adv k ρ1).lays ls))

/-- tests -/
theorem truthy_bool' {b : Bool} {s : Shared} {Q : Bool → Shared → Prop} (h : Q b s) : wpAny (model c.prog c.w) A (truthy (.bool b)) Q (fun _ _ => False) s := wpAny_pure h
theorem t_cmp {op : CmpOp} {a b : Expr} {r : Bool} (R : Rm n A) (hn : nset b = true) (ha : EvE c A kd sc a σ st x st₁) (hb : EvE c A kd sc b σ st₁ y st₂) (h : cmpP st₂ op x y = some r) : EvT c A kd sc (.Compare a [op] [b] pos) σ st r st₂ := by
  intro env fm ρ s F W V Q hQ
  refine wpAny_isTrue_Compare1 (ha env fm ρ s F W V _ fun va s1 ρ1 W1 A1 la => hb env fm ρ1 s1 (F.adv W A1) W1 (V.adv F W A1) _ fun vb s2 ρ2 W2 A2 lb =>
    cmpP_ok R (A2.lay la) lb h _ fun v s3 k l => ?_) (nsl_mark hn)
  cases l
  exact truthy_bool' (hQ s3 ρ2 (W2.keeps k) (A1.trans (A2.trans (kp_adv k ρ2))))
theorem t_not {a : Expr} {r : Bool} (ha : EvT c A kd sc a σ st r st₁) : EvT c A kd sc (.UnaryOp .Not a pos) σ st (!r) st₁ := by
  intro env fm ρ s F W V Q hQ
  exact wpAny_isTrue_Not (ha env fm ρ s F W V _ fun s1 ρ1 W1 A1 => hQ s1 ρ1 W1 A1)
theorem t_var {x : Str} {i : Nat} {r : Bool} (hx : okName x = true) (hs : (x, i) ∈ sc) (h : σ.get i = some (.bool r)) : EvT c A kd sc (.Name x pos) σ st r st := by
  intro env fm ρ s F W V Q hQ
  refine wpAny_isTrue_value (e_var hx hs h env fm ρ s F W V _ fun v s1 ρ1 W1 A1 l => ?_)
  cases l
  exact truthy_bool' (hQ s1 ρ1 W1 A1)
theorem t_chain {o₁ o₂ : CmpOp} {a b e : Expr} {z : D} {r q : Bool} (R : Rm n A) (hn : nset e = true) (ha : EvE c A kd sc a σ st x st₁) (hb : EvE c A kd sc b σ st₁ y st₂) (h : cmpP st₂ o₁ x y = some r)
    (hr : match r with | true => EvE c A kd sc e σ st₂ z st₃ ∧ cmpP st₃ o₂ y z = some q | false => q = false ∧ st₃ = st₂) : EvT c A kd sc (.Compare a [o₁, o₂] [b, e] pos) σ st q st₃ := by
  intro env fm ρ s F W V Q hQ
  refine isTrue_chain (rs := []) (ops := []) (ha env fm ρ s F W V _ fun va s1 ρ1 W1 A1 la => test_link (hb env fm ρ1 s1 (F.adv W A1) W1 (V.adv F W A1) _ fun vb s2 ρ2 W2 A2 lb =>
    cmpP_ok R (A2.lay la) lb h _ fun v s3 k l => ?_)) (by simp only [lastMarks]; exact nsl_mark hn)
  cases l
  have A3 := A1.trans (A2.trans (kp_adv k ρ2))
  refine truthy_bool' ?_
  cases r with
  | true =>
    have F3 := F.adv W A3
    refine test_last (hr.1 env fm ρ2 s3 F3 (W2.keeps k) (V.adv F W A3) _ fun ve s4 ρ4 W4 A4 le => cmpP_ok R (A4.lay ((kp_adv k ρ2).lay lb)) le hr.2 _ fun v s5 k5 l => ?_)
    cases l
    exact truthy_bool' (hQ s5 ρ4 (W4.keeps k5) (A3.trans (A4.trans (kp_adv k5 ρ4))))
  | false =>
    obtain ⟨rfl, rfl⟩ := hr
    exact hQ s3 ρ2 (W2.keeps k) A3

noncomputable def EvTs (c : Cx) (A : Around) (kd : Str → Option NameKind) (sc : List (Str × Nat)) (op : BoolOp) (l : List Expr) (σ : Vars) (st : Store) (b : Bool) (st' : Store) : Prop :=
  ∀ (env : Env) (fm ρ : List Addr) (s : Shared), Fm kd sc env fm s.heap → Wf c fm ρ st s → Vr sc env fm ρ σ s.heap →
    ∀ Q : Bool → Shared → Prop, (∀ s' ρ', Wf c fm ρ' st' s' → Adv ρ ρ' s s' → Q b s') →
      wpAny (model c.prog c.w) A (allTrue op l env) Q (fun _ _ => False) s
theorem t_bool {op : BoolOp} {l : List Expr} {r : Bool} (h : EvTs c A kd sc op l σ st r st₁) : EvT c A kd sc (.BoolOp op l pos) σ st r st₁ :=
  fun env fm ρ s F W V Q hQ => wpAny_isTrue_BoolOp (h env fm ρ s F W V Q hQ)
theorem and_nil : EvTs c A kd sc .And [] σ st true st := fun env fm ρ s F W V Q hQ => wpAny_allTrue_And_nil (hQ _ ρ W (Adv.refl _ _))
theorem or_nil : EvTs c A kd sc .Or [] σ st false st := fun env fm ρ s F W V Q hQ => wpAny_allTrue_Or_nil (hQ _ ρ W (Adv.refl _ _))
theorem and_go {e : Expr} {l : List Expr} {r : Bool} (he : EvT c A kd sc e σ st true st₁) (h : EvTs c A kd sc .And l σ st₁ r st₂) : EvTs c A kd sc .And (e :: l) σ st r st₂ := by
  intro env fm ρ s F W V Q hQ
  refine wpAny_allTrue_And_cons (he env fm ρ s F W V _ fun s1 ρ1 W1 A1 => ?_)
  exact h env fm ρ1 s1 (F.adv W A1) W1 (V.adv F W A1) Q fun s2 ρ2 W2 A2 => hQ s2 ρ2 W2 (A1.trans A2)
theorem and_stop {e : Expr} {l : List Expr} (he : EvT c A kd sc e σ st false st₁) : EvTs c A kd sc .And (e :: l) σ st false st₁ := by
  intro env fm ρ s F W V Q hQ
  exact wpAny_allTrue_And_cons (he env fm ρ s F W V _ fun s1 ρ1 W1 A1 => hQ s1 ρ1 W1 A1)
theorem or_go {e : Expr} {l : List Expr} {r : Bool} (he : EvT c A kd sc e σ st false st₁) (h : EvTs c A kd sc .Or l σ st₁ r st₂) : EvTs c A kd sc .Or (e :: l) σ st r st₂ := by
  intro env fm ρ s F W V Q hQ
  refine wpAny_allTrue_Or_cons (he env fm ρ s F W V _ fun s1 ρ1 W1 A1 => ?_)
  exact h env fm ρ1 s1 (F.adv W A1) W1 (V.adv F W A1) Q fun s2 ρ2 W2 A2 => hQ s2 ρ2 W2 (A1.trans A2)
theorem or_stop {e : Expr} {l : List Expr} (he : EvT c A kd sc e σ st true st₁) : EvTs c A kd sc .Or (e :: l) σ st true st₁ := by
  intro env fm ρ s F W V Q hQ
  exact wpAny_allTrue_Or_cons (he env fm ρ s F W V _ fun s1 ρ1 W1 A1 => hQ s1 ρ1 W1 A1)

/-- slices -/
noncomputable def EvO (c : Cx) (A : Around) (kd : Str → Option NameKind) (sc : List (Str × Nat)) (e : Option Expr) (σ : Vars) (st : Store) (d : Option D) (st' : Store) : Prop :=
  ∀ (env : Env) (fm ρ : List Addr) (s : Shared), Fm kd sc env fm s.heap → Wf c fm ρ st s → Vr sc env fm ρ σ s.heap →
    ∀ Q : Value → Shared → Prop, (∀ v s' ρ', Wf c fm ρ' st' s' → Adv ρ ρ' s s' → LayO (Out (fm ++ ρ') s'.heap) ρ' v d → Q v s') →
      wpAny (model c.prog c.w) A (evalPart e env) Q (fun _ _ => False) s
theorem o_none : EvO c A kd sc none σ st none st := fun env fm ρ s F W V Q hQ => by
  rw [evalPart_none]; exact wpAny_pure (hQ _ _ ρ W (Adv.refl _ _) rfl)
theorem o_some {e : Expr} (h : EvE c A kd sc e σ st d st₁) : EvO c A kd sc (some e) σ st (some d) st₁ := fun env fm ρ s F W V Q hQ => by
  rw [evalPart_some]; exact h env fm ρ s F W V Q hQ
theorem Adv.layO {ρ ρ' fm : List Addr} {s s' : Shared} (x : Adv ρ ρ' s s') {v : Value} {d : Option D} (h : LayO (Out (fm ++ ρ) s.heap) ρ v d) : LayO (Out (fm ++ ρ') s'.heap) ρ' v d := by
  cases d with
  | none => exact h
  | some d => exact x.lay h
theorem e_slc {a : Expr} {lo hi : Option Expr} {p : Pos} {l h : Option D} (ha : EvE c A kd sc a σ st x st₁) (hl : EvO c A kd sc lo σ st₁ l st₂) (hh : EvO c A kd sc hi σ st₂ h st₃) (he : slcP x l h = some d) :
    EvE c A kd sc (.Subscript a (.Slice lo hi none p) pos) σ st d st₃ := by
  intro env fm ρ s F W V Q hQ
  refine Subscript_ (ha env fm ρ s F W V _ fun va s1 ρ1 W1 A1 la => wpAny_Slice (hl env fm ρ1 s1 (F.adv W A1) W1 (V.adv F W A1) _ fun vl s2 ρ2 W2 A2 ll => hh env fm ρ2 s2 (F.adv W (A1.trans A2)) W2 (V.adv F W (A1.trans A2)) _ fun vu s3 ρ3 W3 A3 lu => ?_))
  rw [evalPart_none]
  refine wpAny_pure ?_
  exact slcP_ok (A3.lay (A2.lay la)) (A3.layO ll) lu W3 he Q fun v s4 k l4 => hQ v s4 ρ3 (W3.keeps k) ((A1.trans A2).trans (A3.trans (kp_adv k ρ3))) l4
end
end Mine
end
section
open PySem PySem.W PySem.Calls PyProof.Rows
set_option Elab.async false
set_option linter.unusedVariables false
namespace Mine

structure Ok (c : Cx) : Prop where
  K : c.K.In c.s₀.heap
  blt : ∃ mb, c.s₀.heap.Ns builtinsNs mb ∧ ∀ x : Str, x ≠ "__name__" → mb x = bootBuiltins x
  lim : c.s₀.heap.NoLimit

noncomputable def globIn (K : Frag) (x : Str) : Option Value := match nsIn K mainGlobals x with
  | some (some v) => some v
  | some .none => if x == "__name__" then .none else bootBuiltins x
  | .none => .none

noncomputable def Fn.isType : Fn → Bool
  | .intF => true
  | .range1 => true
  | _ => false

section
variable {c : Cx} {A : Around} {kd : Str → Option NameKind} {sc : List (Str × Nat)} {σ : Vars} {st st₁ st₂ st₃ : Store} {x y d : D} {n : Nat} {pos : Pos} {env : Env} {fm ρ : List Addr} {s : Shared}

theorem Wf.K (O : Ok c) (W : Wf c fm ρ st s) : c.K.In s.heap := fun a o e => W.base _ _ (O.K a o e)
theorem glob_load {X : Str} {v : Value} {Q : Value → Shared → Prop} (O : Ok c) (F : Fm kd sc env fm s.heap) (W : Wf c fm ρ st s) (h : globIn c.K X = some v) (hQ : Q v s) :
    wpAny (model c.prog c.w) A (loadGlobal env X) Q (fun _ _ => False) s := by
  unfold globIn at h
  unfold loadGlobal
  rw [F.glob, F.blt]
  split at h
  · rename_i v' e
    cases h
    exact wpAny_bind ((looks_nsIn (W.K O) e).here (wpAny_pure hQ))
  · rename_i e
    split at h
    · cases h
    · rename_i hn
      refine wpAny_bind ((looks_nsIn (W.K O) e).here ?_)
      obtain ⟨mb, hb, hv⟩ := O.blt
      refine wpAny_bind (wpAny_nsGet (hb.keeps W.base) ?_)
      rw [hv X (fun e => hn (beq_iff_eq.mpr e)), h]
      exact wpAny_pure hQ
  · cases h
theorem glob_name {X : Str} {v : Value} {Q : Value → Shared → Prop} (O : Ok c) (F : Fm kd sc env fm s.heap) (W : Wf c fm ρ st s) (hk : kd X = some .globalImplicit) (h : globIn c.K X = some v) (hx : okName X = true) (hQ : Q v s) :
    wpAny (model c.prog c.w) A (eval (.Name X pos) env) Q (fun _ _ => False) s :=
  Name_function_global F.kind (by rw [F.kdE]; exact hk) (glob_load O F W h hQ) (by simp only [okName, Bool.and_eq_true, Bool.not_eq_true'] at hx; exact hx.1)
/-- a global name that stands for plain data -/
theorem e_glob {X : Str} {v : Value} (O : Ok c) (hk : kd X = some .globalImplicit) (h : globIn c.K X = some v) (hx : okName X = true) (hl : ∀ P ρ, Lay P ρ v d) : EvE c A kd sc (.Name X pos) σ st d st := by
  intro env fm ρ s F W V Q hQ
  exact glob_name O F W hk h hx (hQ _ _ ρ W (Adv.refl _ _) (hl _ _))

theorem plain_args : ∀ {l : List Expr}, l.all nsl = true → (backTo pos (starEach l env)).any (·.1) = false
  | [], _ => rfl
  | e :: r, h => by
    simp only [List.all_cons, Bool.and_eq_true] at h
    rw [nsl_star h.1]
    show (false || (backTo pos (starEach r env)).any (·.1)) = false
    rw [plain_args h.2]; rfl
theorem plain_args' : ∀ {l : List Expr}, l.all nsl = true → (backTo pos (starEach l env)).all (!·.1) = true
  | [], _ => rfl
  | e :: r, h => by
    simp only [List.all_cons, Bool.and_eq_true] at h
    rw [nsl_star h.1]
    show (true && (backTo pos (starEach r env)).all (!·.1)) = true
    rw [plain_args' h.2]; rfl
theorem call_args {M : Model} {E : Value → Shared → Prop} {f : Value} {l : List Expr} {Q : Args → Shared → Prop} (hl : l.all nsl = true)
    (h : wpAny M A (spliced (backTo pos (starEach l env))) (fun vs s' => Q ⟨vs, []⟩ s') E s) : wpAny M A (evalArgs f true (backTo pos (starEach l env)) []) Q E s := by
  cases l with
  | nil =>
    unfold evalArgs
    refine wpAny_bind (wpAny_mono h (fun vs s' h' => ?_) fun _ _ x => x)
    refine wpAny_holding ?_
    exact wpAny_bind (wpAny_pure (wpAny_bind (wpAny_pure (wpAny_pure h'))))
  | cons e r =>
    simp only [List.all_cons, Bool.and_eq_true] at hl
    rw [nsl_star hl.1] at h ⊢
    exact evalArgs_plain h

theorem Fn.val_is (f : Fn) : (∃ i, f.val = .builtin i) ∨ (∃ i, f.val = .type i) := by cases f <;> simp [Fn.val]
theorem callWith_fn {E : Value → Shared → Prop} {f : Fn} {l : List Expr} {Q : Value → Shared → Prop} (hl : l.all nsl = true)
    (h : wpAny (model c.prog c.w) A (spliced (backTo pos (starEach l env))) (fun vs s' => wpAny (model c.prog c.w) A (call f.val vs) Q E s') E s) :
    wpAny (model c.prog c.w) A (callWith pos f.val [] (backTo pos (starEach l env)) []) Q E s := by
  rcases f.val_is with ⟨i, e⟩ | ⟨i, e⟩ <;> rw [e] at h ⊢
  · exact callWith_builtin (plain_args hl) (call_args hl h)
  · exact PySem.callWith_type (plain_args hl) (call_args hl h)
theorem e_fn {f : Fn} {X : Str} {p : Pos} {l : List Expr} {ds : List D} (O : Ok c) (R : Rm n A) (hk : kd X = some .globalImplicit) (h : globIn c.K X = some f.val) (hx : okName X = true) (hl : l.all nsl = true)
    (he : EvL c A kd sc l σ st ds st₁) (hd : fnP st₁ f ds = some d) : EvE c A kd sc (.Call (.Name X p) l [] pos) σ st d st₁ := by
  intro env fm ρ s F W V Q hQ
  refine Call_ (glob_name O F W hk h hx (callWith_fn hl (he pos env fm ρ s F W V _ fun vs s1 ρ1 W1 A1 ls => ?_)))
  exact fnP_ok R W1 ls hd Q fun v s2 k l2 => hQ v s2 ρ1 (W1.keeps k) (A1.trans (kp_adv k ρ1)) l2

/-- a call of a method -/
noncomputable def ncall : Expr → Bool
  | .Call .. => false
  | _ => true
theorem base_plain {o : Expr} (h : ncall o = true) {name : Str} {whole : Sem Value} : attributeBase o name env whole = whole := by
  cases o <;> first | rfl | (simp [ncall] at h)
theorem meth_call {E : Value → Shared → Prop} {o : Expr} {name : Str} {apos : Pos} {l : List Expr} {Q : Value → Shared → Prop} (ho : ncall o = true) (hl : l.all nsl = true) (hn : l.length < 30) (hp : apos.endLine = pos.line)
    (h : wpAny (model c.prog c.w) A (eval o env) (fun ov s₁ => wpAny (model c.prog c.w) A (getMethod ov name (do return (← importBound o env).getD true)) (fun r s₂ => wpAny (model c.prog c.w) A (callWith pos r.1 r.2 (backTo pos (starEach l env)) []) Q E s₂) E s₁) E s) :
    wpAny (model c.prog c.w) A (eval (.Call (.Attribute o name apos) l [] pos) env) Q E s := by
  rw [arm_eval_Call, base_plain ho]
  refine wpAny_bind (wpAny_mono h (fun ov s₁ h₁ => wpAny_bind (wpAny_standAt ?_)) fun _ _ x => x)
  unfold methodCall
  have hf : methodCallForm (l.length + ([] : List Keyword).length) (backTo pos (starEach l env)) (backToKw pos (keywordEach [] env)) = true := by
    show ((backTo pos (starEach l env)).all (!·.1) && true && decide (l.length + 0 + 0 < 30)) = true
    rw [plain_args' hl]; simpa using hn
  rw [hf]
  show wpAny _ _ (holding [ov] (getMethod ov name (do return (← importBound o env).getD true)) >>= _) _ _ _
  refine wpAny_bind (wpAny_holding (wpAny_mono h₁ (fun r s₂ h₂ => ?_) fun _ _ x => x))
  obtain ⟨f, first⟩ := r
  have : methodCallPos true o env apos pos = pure pos := by
    unfold methodCallPos; rw [hp]; simp
  show wpAny _ _ (methodCallPos true o env apos pos >>= fun callPos => callWith callPos f first (backTo pos (starEach l env)) []) _ _ _
  rw [this]
  exact wpAny_bind (wpAny_pure h₂)
theorem gm_me {m : Me} {X : Str} {t : Tok} {pl : Sem Bool} {Q : Value × List Value → Shared → Prop} {E : Value → Shared → Prop} {M : Model} (h : Q (.builtin m.val, [.str X t]) s) : wpAny M A (getMethod (.str X t) m.name pl) Q E s := by
  cases m <;> simp only [Me.name, Me.val] at h ⊢
  · with_reducible exact GM.count h
  · with_reducible exact GM.index h
  · with_reducible exact GM.join h
  · with_reducible exact GM.split h
theorem meP_str {m : Me} {ds : List D} (h : meP st m x ds = some d) : ∃ X, x = .str X := by
  obtain ⟨X, h1, _⟩ := bd_ok h
  exact ⟨X, dS_ok h1⟩
theorem e_me {m : Me} {o : Expr} {X : Str} {apos : Pos} {l : List Expr} {ds : List D} (hX : X = m.name) (ho : ncall o = true) (hl : l.all nsl = true) (hn : l.length < 30) (hp : apos.endLine = pos.line)
    (h : EvE c A kd sc o σ st x st₁) (he : EvL c A kd sc l σ st₁ ds st₂) (hd : meP st₂ m x ds = some d) : EvE c A kd sc (.Call (.Attribute o X apos) l [] pos) σ st d st₂ := by
  subst hX
  intro env fm ρ s F W V Q hQ
  refine meth_call ho hl hn hp (h env fm ρ s F W V _ fun ov s1 ρ1 W1 A1 lo => ?_)
  obtain ⟨X, rfl⟩ := meP_str hd
  cases lo
  with_reducible refine gm_me ?_
  refine callWith_builtin (plain_args hl) (call_args hl (he pos env fm ρ1 s1 (F.adv W A1) W1 (V.adv F W A1) _ fun vs s2 ρ2 W2 A2 ls => ?_))
  exact meP_ok W2 ls hd Q fun v s3 k l3 => hQ v s3 ρ2 (W2.keeps k) (A1.trans (A2.trans (kp_adv k ρ2))) l3

/-- a call of a value -/
noncomputable def CallE (c : Cx) (A : Around) (v : Value) (ds : List D) (st : Store) (d : D) (st' : Store) : Prop :=
  ∀ (fm ρ : List Addr) (s : Shared) (vs : List Value), Wf c fm ρ st s → Lays (Out (fm ++ ρ) s.heap) ρ vs ds →
    ∀ Q : Value → Shared → Prop, (∀ v' s' ρ', Wf c fm ρ' st' s' → Adv ρ ρ' s s' → Lay (Out (fm ++ ρ') s'.heap) ρ' v' d → Q v' s') →
      wpAny (model c.prog c.w) A (call v vs) Q (fun _ _ => False) s
noncomputable def isFn (K : Frag) (a : Addr) : Bool := match K.lookup a with
  | some ⟨_, _, .func _, _⟩ => true
  | _ => false
theorem isFn_get (O : Ok c) (W : Wf c fm ρ st s) {a : Addr} (h : isFn c.K a = true) : ∃ o fd, s.heap.get? a = some o ∧ o.data = .func fd := by
  unfold isFn at h
  split at h
  · rename_i e; exact ⟨_, _, W.K O _ _ e, rfl⟩
  · cases h
theorem isFn_get' (O : Ok c) {a : Addr} (h : isFn c.K a = true) : ∃ o fd, (∀ {fm ρ : List Addr} {st : Store} {s : Shared}, Wf c fm ρ st s → s.heap.get? a = some o) ∧ o.data = .func fd := by
  unfold isFn at h
  split at h
  · rename_i e; exact ⟨_, _, fun W => W.K O _ _ e, rfl⟩
  · cases h
theorem e_call {a : Addr} {X : Str} {p : Pos} {l : List Expr} {ds : List D} (O : Ok c) (hk : kd X = some .globalImplicit) (h : globIn c.K X = some (.ref a)) (hf : isFn c.K a = true) (hx : okName X = true) (hl : l.all nsl = true)
    (he : EvL c A kd sc l σ st ds st₁) (hc : CallE c A (.ref a) ds st₁ d st₂) : EvE c A kd sc (.Call (.Name X p) l [] pos) σ st d st₂ := by
  intro env fm ρ s F W V Q hQ
  obtain ⟨o, fd, ho, hd⟩ := isFn_get' O hf
  refine Call_ (glob_name O F W hk h hx (callWith_function (o := o) (fd := fd) (call_args hl (he pos env fm ρ s F W V _ fun vs s1 ρ1 W1 A1 ls => ⟨⟨ho W1, hd⟩, ?_⟩))))
  exact hc fm ρ1 s1 vs W1 ls Q fun v s2 ρ2 W2 A2 l2 => hQ v s2 ρ2 W2 (A1.trans A2) l2
end
end Mine
end
section
open PySem PySem.W PySem.Calls PyProof.Rows
set_option Elab.async false
set_option linter.unusedVariables false
namespace Mine

theorem beq_ne {a b : Nat} (h : a ≠ b) : Nat.beq a b = false := by
  cases e : Nat.beq a b with
  | false => rfl
  | true => exact absurd (Nat.eq_of_beq_eq_true e) h
theorem beq_me (a : Nat) : Nat.beq a a = true := by simp
theorem Vars.get_set : ∀ (σ : Vars) (i j : Nat) (d : D), (σ.set i d).get j = if i = j then some d else σ.get j
  | [], i, j, d => by
    simp only [Vars.set, Vars.get]
    by_cases h : i = j
    · subst h; rw [beq_me]; simp
    · rw [beq_ne h]; simp [h]
  | (k, e) :: r, i, j, d => by
    simp only [Vars.set]
    by_cases h : k = i
    · subst h
      rw [beq_me]
      simp only [Vars.get]
      by_cases h2 : k = j
      · subst h2; rw [beq_me]; simp
      · rw [beq_ne h2]; simp [h2]
    · rw [beq_ne h]
      simp only [Vars.get]
      by_cases h2 : k = j
      · subst h2; rw [beq_me]; simp [Ne.symm h]
      · rw [beq_ne h2]; exact Vars.get_set r i j d
theorem ns_eq {h : Heap} {a : Addr} {m m' : Str → Option Value} (x : h.Ns a m) (y : h.Ns a m') (n : Str) : m n = m' n := by
  obtain ⟨o, es, ep, e, hd, _, hm⟩ := x
  obtain ⟨o', es', ep', e', hd', _, hm'⟩ := y
  rw [e] at e'; cases e'
  rw [hd] at hd'; cases hd'
  rw [← hm, ← hm']

structure Go (ms ms' : List Addr) (h h' : Heap) : Prop where
  keep : ∀ b o, b ∉ ms → h.get? b = some o → h'.get? b = some o
  news : ∀ a ∈ ms', a ∉ ms → h.get? a = none
theorem Go.out {ms ms' : List Addr} {h h' : Heap} (g : Go ms ms' h h') {a : Addr} {o : Obj} (x : Out ms h a o) : Out ms' h' a o :=
  ⟨g.keep a o x.2 x.1, fun hm => by have := x.1; rw [g.news a hm x.2] at this; cases this⟩
theorem Go.lay {ms ms' ρ ρ' : List Addr} {h h' : Heap} (g : Go ms ms' h h') (p : ∀ (i : Nat) (a : Addr), ρ[i]? = some a → ρ'[i]? = some a) {v : Value} {d : D} (x : Lay (Out ms h) ρ v d) : Lay (Out ms' h') ρ' v d :=
  x.mono (fun _ _ q => g.out q) p
theorem Go.lays {ms ms' ρ ρ' : List Addr} {h h' : Heap} (g : Go ms ms' h h') (p : ∀ (i : Nat) (a : Addr), ρ[i]? = some a → ρ'[i]? = some a) {v : List Value} {d : List D} (x : Lays (Out ms h) ρ v d) : Lays (Out ms' h') ρ' v d :=
  x.mono (fun _ _ q => g.out q) p
theorem Adv.go {ρ ρ' : List Addr} {s s' : Shared} (x : Adv ρ ρ' s s') (fm : List Addr) : Go (fm ++ ρ) (fm ++ ρ') s.heap s'.heap :=
  ⟨fun b o hb e => x.keep b o (fun h => hb (List.mem_append_right _ h)) e, fun a ha hn => by
    rcases List.mem_append.mp ha with h | h
    · exact absurd (List.mem_append_left _ h) hn
    · exact x.news a h fun q => hn (List.mem_append_right _ q)⟩
theorem pre_app {ρ ρ' : List Addr} (own : List Addr) (p : ∀ (i : Nat) (a : Addr), ρ[i]? = some a → ρ'[i]? = some a) (i : Nat) (a : Addr) (h : (own ++ ρ)[i]? = some a) : (own ++ ρ')[i]? = some a := by
  rw [List.getElem?_append] at h ⊢
  split at h
  · rename_i q; rw [if_pos q]; exact h
  · rename_i q; rw [if_neg q]; exact p _ _ h
theorem Adv.up {ρ ρ' : List Addr} {s s' : Shared} (x : Adv ρ ρ' s s') (own : List Addr) : Adv (own ++ ρ) (own ++ ρ') s s' :=
  ⟨(x.go own).keep, (x.go own).news, pre_app own x.pre⟩
theorem Adv.down {own ρ ρ' : List Addr} {s s' : Shared} (x : Adv (own ++ ρ) (own ++ ρ') s s') (i : Nat) (a : Addr) (h : ρ[i]? = some a) : ρ'[i]? = some a := by
  have := x.pre (own.length + i) a (by rw [List.getElem?_append_right (by omega)]; simpa using h)
  rw [List.getElem?_append_right (by omega)] at this
  simpa using this
/-- the frames of others stand -/
theorem Adv.wide {own fm ρ ρ' : List Addr} {s s' : Shared} (x : Adv (own ++ ρ) (own ++ ρ') s s') (hs : ∀ a ∈ own, a ∈ fm) : Go (fm ++ ρ) (fm ++ ρ') s.heap s'.heap :=
  ⟨fun b o hb e => x.keep b o (fun h => hb (by
      rcases List.mem_append.mp h with h | h
      · exact List.mem_append_left _ (hs _ h)
      · exact List.mem_append_right _ h)) e, fun a ha hn => by
    rcases List.mem_append.mp ha with h | h
    · exact absurd (List.mem_append_left _ h) hn
    · exact x.news a (List.mem_append_right _ h) fun q => hn (by
        rcases List.mem_append.mp q with q | q
        · exact List.mem_append_left _ (hs _ q)
        · exact List.mem_append_right _ q)⟩

section
variable {c : Cx} {A : Around} {kd : Str → Option NameKind} {sc : List (Str × Nat)} {σ σ' σ₁ σ₂ : Vars} {st st₁ st₂ st₃ st' : Store} {x y d : D} {n : Nat} {pos : Pos} {env : Env} {fm fm' own ρ ρ' : List Addr} {s s' : Shared}

theorem Wf.go (W : Wf c fm ρ st s) (hs : ∃ h tk, s' = { s with heap := h, toks := tk }) (g : Go (fm ++ ρ) (fm' ++ ρ) s.heap s'.heap) (kr : ∀ a ∈ ρ, ∀ o, s.heap.get? a = some o → s'.heap.get? a = some o)
    (al : ∀ a ∈ fm', ∃ o, s'.heap.get? a = some o) (ap : ∀ a ∈ ρ, a ∉ fm') : Wf c fm' ρ st s' := by
  have nb : ∀ b o, c.s₀.heap.get? b = some o → b ∉ fm ++ ρ := fun b o e hm => by
    rw [W.new b (List.mem_append.mp hm)] at e; cases e
  refine ⟨?_, fun b o e => g.keep b o (nb b o e) (W.base b o e), fun a ha => ?_, fun a ha => ?_, W.len, fun i a mo e1 e2 => ?_, W.nodup, ap⟩
  · obtain ⟨h, t, e⟩ := W.same
    obtain ⟨h', t', rfl⟩ := hs
    exact ⟨h', t', by rw [e]⟩
  · rcases ha with ha | ha
    · exact al a ha
    · obtain ⟨o, e⟩ := W.alive a (.inr ha)
      exact ⟨o, kr a ha o e⟩
  · rcases ha with ha | ha
    · by_cases h : a ∈ fm
      · exact W.new a (.inl h)
      · have := g.news a (List.mem_append_left _ ha) (fun q => by
          rcases List.mem_append.mp q with q | q
          · exact h q
          · exact ap a q ha)
        cases e : c.s₀.heap.get? a with
        | none => rfl
        | some o => rw [W.base a o e] at this; cases this
    · exact W.new a (.inr ha)
  · exact (W.store i a mo e1 e2).mono (fun b o q => g.out q) (fun _ _ e => e) fun o e => kr a (List.mem_of_getElem? e1) o e
theorem Wf.apartR (W : Wf c fm ρ st s) {a : Addr} (h : a ∈ ρ) : a ∉ fm := W.apart a h

structure Own (env : Env) (fm own : List Addr) : Prop where
  loc : env.locals ∈ own
  cell : ∀ x cc, env.cells.lookup x = some cc → cc ∈ own
  sub : ∀ a ∈ own, a ∈ fm

noncomputable def FlAt (P : Addr → Obj → Prop) (ρ : List Addr) (f : Flow) : Fl → Prop
  | .next => f = .next
  | .ret d => ∃ v, f = .ret v ∧ Lay P ρ v d

noncomputable def ExAny (c : Cx) (A : Around) (kd : Str → Option NameKind) (sc : List (Str × Nat)) (t : Env → Sem Flow) (σ : Vars) (st : Store) (fl : Fl) (σ' : Vars) (st' : Store) : Prop :=
  ∀ (env : Env) (fm own ρ : List Addr) (s : Shared), Fm kd sc env fm s.heap → Own env fm own → Wf c fm ρ st s → Vr sc env fm ρ σ s.heap →
    ∀ Q : Flow → Shared → Prop, (∀ f s' ρ', Wf c fm ρ' st' s' → Adv (own ++ ρ) (own ++ ρ') s s' → Fm kd sc env fm s'.heap → Vr sc env fm ρ' σ' s'.heap → FlAt (Out (fm ++ ρ') s'.heap) ρ' f fl → Q f s') →
      wpAny (model c.prog c.w) A (t env) Q (fun _ _ => False) s
noncomputable abbrev ExS (c : Cx) (A : Around) (kd : Str → Option NameKind) (sc : List (Str × Nat)) (t : Stmt) := ExAny c A kd sc (exec t)
noncomputable abbrev ExL (c : Cx) (A : Around) (kd : Str → Option NameKind) (sc : List (Str × Nat)) (t : List Stmt) := ExAny c A kd sc (execs t)

theorem x_nil : ExL c A kd sc [] σ st .next σ st := fun env fm own ρ s F O W V Q hQ => wpAny_execs_nil (hQ _ _ ρ W (Adv.refl _ _) F V rfl)
theorem x_next {t : Stmt} {r : List Stmt} {fl : Fl} (h : ExS c A kd sc t σ st .next σ₁ st₁) (hr : ExL c A kd sc r σ₁ st₁ fl σ₂ st₂) : ExL c A kd sc (t :: r) σ st fl σ₂ st₂ := by
  intro env fm own ρ s F O W V Q hQ
  refine wpAny_execs_cons (h env fm own ρ s F O W V _ fun f s1 ρ1 W1 A1 F1 V1 hf => ?_)
  cases hf
  exact hr env fm own ρ1 s1 F1 O W1 V1 Q fun f s2 ρ2 W2 A2 F2 V2 hf => hQ f s2 ρ2 W2 (A1.trans A2) F2 V2 hf
theorem x_ret {t : Stmt} {r : List Stmt} (h : ExS c A kd sc t σ st (.ret d) σ₁ st₁) : ExL c A kd sc (t :: r) σ st (.ret d) σ₁ st₁ := by
  intro env fm own ρ s F O W V Q hQ
  refine wpAny_execs_cons (h env fm own ρ s F O W V _ fun f s1 ρ1 W1 A1 F1 V1 hf => ?_)
  obtain ⟨v, rfl, l⟩ := hf
  exact hQ _ s1 ρ1 W1 A1 F1 V1 ⟨v, rfl, l⟩

theorem x_return {e : Expr} (h : EvE c A kd sc e σ st d st₁) : ExS c A kd sc (.Return (some e) pos) σ st (.ret d) σ st₁ := by
  intro env fm own ρ s F O W V Q hQ
  exact wpAny_Return_some (h env fm ρ s F W V _ fun v s1 ρ1 W1 A1 l => hQ _ s1 ρ1 W1 (A1.up own) (F.adv W A1) (V.adv F W A1) ⟨v, rfl, l⟩)
theorem x_if {t : Expr} {a b : List Stmt} {r : Bool} {fl : Fl} (ht : EvT c A kd sc t σ st r st₁) (ha : ExL c A kd sc (if r = true then a else b) σ st₁ fl σ₂ st₂) : ExS c A kd sc (.If t a b pos) σ st fl σ₂ st₂ := by
  intro env fm own ρ s F O W V Q hQ
  refine wpAny_If (ht env fm ρ s F W V _ fun s1 ρ1 W1 A1 => ?_)
  have := ha env fm own ρ1 s1 (F.adv W A1) O W1 (V.adv F W A1) Q fun f s2 ρ2 W2 A2 F2 V2 hf => hQ f s2 ρ2 W2 ((A1.up own).trans A2) F2 V2 hf
  cases r <;> exact this
theorem x_expr {e : Expr} (h : EvE c A kd sc e σ st d st₁) (hd : match d with | .tup _ => False | .lst _ => False | .rng .. => False | .ref _ => False | _ => True) (hs : ∀ env, swapsWith e none pos.line env = pure false) : ExS c A kd sc (.Expr e pos) σ st .next σ st₁ := by
  intro env fm own ρ s F O W V Q hQ
  refine wpAny_Expr (h env fm ρ s F W V _ fun v s1 ρ1 W1 A1 l => ?_) (by simp [interactive, F.kind]) (hs env)
  have := hQ .next s1 ρ1 W1 (A1.up own) (F.adv W A1) (V.adv F W A1) rfl
  cases l <;> first | exact this | exact hd.elim

/-- a frame's own object changes -/
theorem Wf.chg (W : Wf c fm ρ st s) {a : Addr} (ha : a ∈ fm) (hs : ∃ h tk, s' = { s with heap := h, toks := tk }) (k : ∀ b o, b ≠ a → s.heap.get? b = some o → s'.heap.get? b = some o) (al : ∃ o, s'.heap.get? a = some o) :
    Wf c fm ρ st s' ∧ Go (fm ++ ρ) (fm ++ ρ) s.heap s'.heap := by
  have g : Go (fm ++ ρ) (fm ++ ρ) s.heap s'.heap := ⟨fun b o hb e => k b o (fun h => hb (h ▸ List.mem_append_left _ ha)) e, fun _ h n => absurd h n⟩
  refine ⟨W.go hs g (fun b hb o e => k b o (fun h => W.apart b hb (h ▸ ha)) e) (fun b hb => ?_) W.apart, g⟩
  by_cases h : b = a
  · exact h ▸ al
  · obtain ⟨o, e⟩ := W.alive b (.inl hb)
    exact ⟨o, k b o h e⟩
theorem adv_chg {a : Addr} (ha : a ∈ own) (k : ∀ b o, b ≠ a → s.heap.get? b = some o → s'.heap.get? b = some o) : Adv (own ++ ρ) (own ++ ρ) s s' :=
  ⟨fun b o hb e => k b o (fun h => hb (h ▸ List.mem_append_left _ ha)) e, fun _ h n => absurd h n, fun _ _ e => e⟩

theorem store_ok {X : Str} {i : Nat} {v : Value} {Q : Unit → Shared → Prop} (F : Fm kd sc env fm s.heap) (O : Own env fm own) (W : Wf c fm ρ st s) (V : Vr sc env fm ρ σ s.heap) (hs : (X, i) ∈ sc) (hk : kd X = some .local ∨ kd X = some .cell)
    (hl : Lay (Out (fm ++ ρ) s.heap) ρ v d)
    (hQ : ∀ s', Wf c fm ρ st s' → Adv (own ++ ρ) (own ++ ρ) s s' → Fm kd sc env fm s'.heap → Vr sc env fm ρ (σ.set i d) s'.heap → Q () s') :
    wpAny (model c.prog c.w) A (storeName env X v) Q (fun _ _ => False) s := by
  have one : ∀ p ∈ sc, ∀ e, (σ.set i d).get p.2 = some e → (p.1 = X ∧ e = d) ∨ (p.1 ≠ X ∧ σ.get p.2 = some e) ∨ (p.1 = X ∧ p.2 ≠ i) := fun p hp e he => by
    rw [Vars.get_set] at he
    by_cases h : i = p.2
    · rw [if_pos h] at he
      exact .inl ⟨F.one p hp (X, i) hs h.symm, (Option.some.inj he).symm⟩
    · rw [if_neg h] at he
      by_cases h2 : p.1 = X
      · exact .inr (.inr ⟨h2, Ne.symm h⟩)
      · exact .inr (.inl ⟨h2, he⟩)
  rcases hk with hk | hk
  · obtain ⟨m, hm⟩ := F.ns
    refine wpAny_storeName_local (by rw [F.kdE]; exact hk) hm (fun h' hn' hs' => ?_) (by rw [F.kind]; rfl)
    have k : ∀ b o, b ≠ env.locals → s.heap.get? b = some o → h'.get? b = some o := hs'.extBut
    obtain ⟨W', g⟩ := W.chg (s' := { s with heap := h', toks := s.toks + 1 }) F.loc ⟨_, _, rfl⟩ k (let ⟨o, _, _, q, _⟩ := hn'; ⟨o, q⟩)
    have F' : Fm kd sc env fm h' := { F with ns := ⟨_, hn'⟩, cell := fun y cc e => let ⟨h1, ⟨u, h2⟩, h3⟩ := F.cell y cc e; ⟨h1, ⟨u, cellAt h2 fun o q => k _ o h3 q⟩, h3⟩ }
    refine hQ _ W' (adv_chg O.loc k) F' fun p hp e he => ?_
    rcases one p hp e he with ⟨q, rfl⟩ | ⟨q, he⟩ | ⟨q, r⟩
    · exact ⟨v, .inl ⟨by rw [F.kdE, q]; exact hk, _, hn', by simp [q]⟩, g.lay (fun _ _ e => e) hl⟩
    · obtain ⟨u, hu, l⟩ := V p hp e he
      refine ⟨u, ?_, g.lay (fun _ _ e => e) l⟩
      rcases hu with ⟨k1, m1, hn1, hm1⟩ | ⟨k1, cc, hc, hv⟩
      · have hmm : m p.1 = some u := (ns_eq hm hn1 _).trans hm1
        exact .inl ⟨k1, _, hn', by simp only [if_neg q]; exact hmm⟩
      · exact .inr ⟨k1, cc, hc, cellAt hv fun o e => k _ o (F.cell _ _ hc).2.2 e⟩
    · exact absurd (F.two p hp (X, i) hs q) r
  · have hc : ∃ cc, env.cells.lookup X = some cc := by
      rcases F.kinds (X, i) hs with h | h
      · rw [hk] at h; cases h
      · exact h.2
    obtain ⟨cc, hcc⟩ := hc
    obtain ⟨h1, ⟨u, h2⟩, h3⟩ := F.cell X cc hcc
    refine wpAny_storeName_cell F.kind (by rw [F.kdE]; exact hk) hcc h2 fun h' hc' hs' => ?_
    have k : ∀ b o, b ≠ cc → s.heap.get? b = some o → h'.get? b = some o := hs'.extBut
    obtain ⟨W', g⟩ := W.chg (s' := { s with heap := h' }) h1 ⟨_, s.toks, rfl⟩ k (let ⟨o, q, _⟩ := hc'; ⟨o, q⟩)
    obtain ⟨m, hm⟩ := F.ns
    have F' : Fm kd sc env fm h' := { F with
      ns := ⟨m, hm.at' fun o e => k _ o (Ne.symm h3) e⟩
      cell := fun y c2 e => by
        obtain ⟨q1, ⟨u2, q2⟩, q3⟩ := F.cell y c2 e
        by_cases hh : c2 = cc
        · subst hh; exact ⟨q1, ⟨_, hc'⟩, q3⟩
        · exact ⟨q1, ⟨u2, cellAt q2 fun o q => k _ o hh q⟩, q3⟩ }
    refine hQ _ W' (adv_chg (O.cell _ _ hcc) k) F' fun p hp e he => ?_
    rcases one p hp e he with ⟨q, rfl⟩ | ⟨q, he⟩ | ⟨q, r⟩
    · exact ⟨v, .inr ⟨.inl (by rw [F.kdE, q]; exact hk), cc, by rw [q]; exact hcc, hc'⟩, g.lay (fun _ _ e => e) hl⟩
    · obtain ⟨u, hu, l⟩ := V p hp e he
      refine ⟨u, ?_, g.lay (fun _ _ e => e) l⟩
      rcases hu with ⟨k1, m1, hn1, hm1⟩ | ⟨k1, c2, hc2, hv⟩
      · exact .inl ⟨k1, m1, hn1.at' fun o e => k _ o (Ne.symm h3) e, hm1⟩
      · exact .inr ⟨k1, c2, hc2, cellAt hv fun o e => k _ o (fun hh => q (F.inj _ _ cc (hh ▸ hc2) hcc)) e⟩
    · exact absurd (F.two p hp (X, i) hs q) r
end
end Mine
end
section
open PySem PySem.W PySem.Calls PyProof.Rows PySem.Builtin
set_option Elab.async false
set_option linter.unusedVariables false
namespace Mine

/-- what an iterator over frozen items gives -/
structure IterAt (c : Cx) (A : Around) (ms ρ : List Addr) (h₀ : Heap) (I : Addr) (ds : List D) (P : Nat → Value → Prop) (St : Nat → Heap → Prop) : Prop where
  item : ∀ i (s : Shared) (Q : Option Value → Shared → Prop) (E : Value → Shared → Prop), i < ds.length → St i s.heap →
    (∀ v h' tk, P i v → St (i + 1) h' → (∀ b o, b ≠ I → s.heap.get? b = some o → h'.get? b = some o) → Q (some v) { s with heap := h', toks := tk }) → wpAny (model c.prog c.w) A (pyNext (.ref I)) Q E s
  done : ∀ (s : Shared) (Q : Option Value → Shared → Prop) (E : Value → Shared → Prop), St ds.length s.heap →
    (∀ h' tk, (∀ b o, b ≠ I → s.heap.get? b = some o → h'.get? b = some o) → Q none { s with heap := h', toks := tk }) → wpAny (model c.prog c.w) A (pyNext (.ref I)) Q E s
  self : ∀ i (s : Shared) (Q : Value → Shared → Prop) (E : Value → Shared → Prop), St i s.heap → Q (.ref I) s → wpAny (model c.prog c.w) A (pyIter (.ref I)) Q E s
  alive : ∀ i h, St i h → ∃ o, h.get? I = some o
  frame : ∀ i h h', St i h → (∀ o, h.get? I = some o → h'.get? I = some o) → (∀ b o, Out ms h₀ b o → h.get? b = some o) → (∀ b o, Out ms h₀ b o → h'.get? b = some o) → St i h'
  laid : ∀ i v, P i v → ∃ d, ds[i]? = some d ∧ Lay (Out ms h₀) ρ v d

section
variable {c : Cx} {A : Around} {kd : Str → Option NameKind} {sc : List (Str × Nat)} {σ σ' σ₁ σ₂ : Vars} {st st₁ st₂ st₃ st' : Store} {x y d : D} {n : Nat} {pos : Pos} {env : Env} {fm fm' own ρ ρ' : List Addr} {s s' : Shared}

theorem IterAt.of {ms : List Addr} {h₀ : Heap} {I : Addr} {fp : List Addr} {ds : List D} {P : Nat → Value → Prop} {St : Nat → Heap → Prop} (W : Walks c.prog c.w A I fp [I] ds.length P St) (al : ∀ i h, St i h → ∃ o, h.get? I = some o)
    (hfp : ∀ b ∈ fp, b = I ∨ (∃ o, Out ms h₀ b o)) (hl : ∀ i v, P i v → ∃ d, ds[i]? = some d ∧ Lay (Out ms h₀) ρ v d) : IterAt c A ms ρ h₀ I ds P St where
  item := fun i s Q E hi st h => W.item i s Q E hi st fun v h' tk p q k => h v h' tk p q fun b o hb e => k b o (by simpa using hb) e
  done := fun s Q E st h => W.done s Q E st fun h' tk k => h h' tk fun b o hb e => k b o (by simpa using hb) e
  self := W.self
  alive := al
  frame := fun i h h' st hI hO hO' => W.frame i h h' st fun b hb o e => by
    rcases hfp b hb with q | ⟨o', ho⟩
    · rw [q] at e ⊢; exact hI o e
    · have := hO b o' ho; rw [this] at e; cases e; exact hO' b _ ho
  laid := hl

theorem out_ne {ms : List Addr} {h : Heap} {a : Addr} {o : Obj} (x : Out ms h a o) : a ≠ h.objs.size := fun e => by
  have := x.1; rw [e, size_none] at this; cases this

theorem iter_ok {v : Value} {ds : List D} {Q : Value → Shared → Prop} (R : Rm n A) (la : Lay (Out (fm ++ ρ) s.heap) ρ v d) (hi : items d = some ds)
    (hQ : ∀ o P St, IterAt c A (fm ++ ρ) ρ s.heap s.heap.objs.size ds P St → o.isFreed = false → St 0 (s.heap.push o) → Q (.ref s.heap.objs.size) { s with heap := s.heap.push o }) :
    wpAny (model c.prog c.w) A (pyIter v) Q (fun _ _ => False) s := by
  cases d with
  | lst l =>
    cases hi
    cases la with | lst ho ls =>
    rename_i a' vs' n'
    have W := Walks.list (prog := c.prog) (w := c.w) R.1 s.heap.objs.size a' (out_ne ho) vs'.toArray
    rw [show vs'.toArray.size = ds.length by rw [List.size_toArray]; exact ls.length] at W
    refine wpAny_pyIter_list (lst_isList ho.1) (hQ _ _ _ (IterAt.of W (fun i h st => let ⟨o, e, _⟩ := st.1; ⟨o, e⟩) (fun b hb => ?_) fun i v hv => ls.get' (by simpa using hv)) rfl ⟨⟨_, Heap.get?_push_size _ rfl, rfl, rfl⟩, (lst_isList ho.1).push _⟩)
    rcases List.mem_cons.mp hb with rfl | hb
    · exact .inl rfl
    · rw [List.mem_singleton.mp hb]; exact .inr ⟨_, ho⟩
  | tup l =>
    cases hi
    cases la with | tup ho ls =>
    rename_i a' vs' n'
    have W := Walks.tuple (prog := c.prog) (w := c.w) R.1 s.heap.objs.size a' (out_ne ho) vs'.toArray
    rw [show vs'.toArray.size = ds.length by rw [List.size_toArray]; exact ls.length] at W
    have hT : s.heap.IsTuple _ _ := ⟨_, ho.1, rfl, _, rfl⟩
    refine wpAny_pyIter_tuple hT (hQ _ _ _ (IterAt.of W (fun i h st => let ⟨o, e, _⟩ := st.1; ⟨o, e⟩) (fun b hb => ?_) fun i v hv => ls.get' (by simpa using hv)) rfl ⟨⟨_, Heap.get?_push_size _ rfl, rfl, rfl⟩, hT.push _⟩)
    rcases List.mem_cons.mp hb with rfl | hb
    · exact .inl rfl
    · rw [List.mem_singleton.mp hb]; exact .inr ⟨_, ho⟩
  | str x =>
    cases hi
    cases la with | str _ t =>
    refine wpAny_pyIter_strU (hQ _ (SignAt x) (fun i h => h.IsStrIter s.heap.objs.size (strIterType x) x t i) ?_ rfl ⟨_, Heap.get?_push_size _ rfl, rfl, rfl⟩)
    have W : Walks c.prog c.w A s.heap.objs.size [s.heap.objs.size] [s.heap.objs.size] x.cps.size (SignAt x) (fun i h => h.IsStrIter s.heap.objs.size (strIterType x) x t i) := by
      unfold strIterType
      cases ha : x.cps.all (· < 128)
      · exact Walks.strWide R.1 _ x t
      · exact Walks.strAscii R.1 _ x t
    refine IterAt.of (W := by simpa using W) (fun i h st => let ⟨o, e, _⟩ := st; ⟨o, e⟩) (fun b hb => .inl (List.mem_singleton.mp hb)) fun i v hv => ?_
    obtain ⟨c, u, hc, rfl⟩ := hv
    exact ⟨.str ⟨#[c]⟩, by simp [hc], .str _ _⟩
  | rng a b c' =>
      obtain ⟨⟨rfl, hsm⟩, hi⟩ := if_ok hi; cases hi
      cases la with | rng ho =>
      have h0 : 0 ≤ Builtin.Range.rangeSize a b 1 := by unfold Builtin.Range.rangeSize; split <;> omega
      have W := Walks.range (prog := c.prog) (w := c.w) (A := A) R.1 s.heap.objs.size a 1 (Builtin.Range.rangeSize a b 1).toNat
      refine wpAny_pyIter_range ho.1 hsm (hQ _ _ _ (IterAt.of (W := by rw [List.length_map, List.length_range]; exact W.bound) (fun i h st => ⟨_, st⟩) (fun b hb => .inl (List.mem_singleton.mp hb)) fun i v hv => ?_) rfl ?_)
      · obtain ⟨hlt, t, rfl⟩ := hv
        exact ⟨.int (a + i * 1), by simp only [List.getElem?_map, List.getElem?_range hlt, Option.map_some], .int _ _⟩
      · show Heap.get? _ _ = some _
        rw [Heap.get?_push_size _ rfl]
        simp only [Int.toNat_of_nonneg h0, rawInt]
        simp
  | none => exact bad hi
  | bool => exact bad hi
  | int => exact bad hi
  | flt => exact bad hi
  | ref => exact bad hi
end
end Mine
end
section
open PySem PySem.W PySem.Calls PyProof.Rows PySem.Builtin
set_option Elab.async false
set_option linter.unusedVariables false
namespace Mine

theorem Go.trans {a b c : List Addr} {h h' h'' : Heap} (x : Go a b h h') (y : Go b c h' h'') : Go a c h h'' := by
  refine ⟨fun q o hq e => (y.out (x.out ⟨e, hq⟩)).1, fun q hq hn => ?_⟩
  by_cases hb : q ∈ b
  · exact x.news q hb hn
  · have := y.news q hq hb
    cases e : h.get? q with
    | none => rfl
    | some o => rw [x.keep q o hn e] at this; cases this
theorem Go.sub {a b c : List Addr} {h h' : Heap} (x : Go a b h h') (s : ∀ q ∈ c, q ∈ b) : Go a c h h' := ⟨x.keep, fun q hq => x.news q (s q hq)⟩
theorem Go.add {a b : List Addr} {h h' : Heap} {I : Addr} (x : Go a b h h') (hI : h.get? I = none) : Go a (I :: b) h h' := ⟨x.keep, fun q hq hn => by
  rcases List.mem_cons.mp hq with rfl | hq
  · exact hI
  · exact x.news q hq hn⟩
theorem Go.refl (a : List Addr) (h : Heap) : Go a a h h := ⟨fun _ _ _ e => e, fun _ h n => absurd h n⟩

section
variable {c : Cx} {A : Around} {kd : Str → Option NameKind} {sc : List (Str × Nat)} {σ σ' σ₁ σ₂ : Vars} {st st₁ st₂ st₃ st' : Store} {x y d : D} {n : Nat} {pos : Pos} {env : Env} {fm fm' own ρ ρ' : List Addr} {s s' : Shared} {h h' : Heap}

theorem Fm.weak (F : Fm kd sc env fm h) (hs : ∀ a ∈ fm, a ∈ fm') : Fm kd sc env fm' h :=
  { F with loc := hs _ F.loc, cell := fun y cc e => ⟨hs _ (F.cell y cc e).1, (F.cell y cc e).2⟩ }
theorem Fm.back (F : Fm kd sc env fm h) (F' : Fm kd sc env fm' h') : Fm kd sc env fm h' :=
  { F' with loc := F.loc, cell := fun y cc e => ⟨(F.cell y cc e).1, (F'.cell y cc e).2⟩ }
theorem Fm.keep (F : Fm kd sc env fm h) (k : ∀ a ∈ fm, ∀ o, h.get? a = some o → h'.get? a = some o) : Fm kd sc env fm h' :=
  { F with
    ns := let ⟨m, hn⟩ := F.ns; ⟨m, hn.at' fun o e => k _ F.loc o e⟩
    cell := fun y cc e => let ⟨h1, ⟨v, h2⟩, h3⟩ := F.cell y cc e; ⟨h1, ⟨v, cellAt h2 fun o e => k _ h1 o e⟩, h3⟩ }
theorem Vr.go {fm₀ : List Addr} (V : Vr sc env fm ρ σ h) (F : Fm kd sc env fm₀ h) (k : ∀ a ∈ fm₀, ∀ o, h.get? a = some o → h'.get? a = some o) (g : Go (fm ++ ρ) (fm' ++ ρ') h h') (p : ∀ (i : Nat) (a : Addr), ρ[i]? = some a → ρ'[i]? = some a) : Vr sc env fm' ρ' σ h' := by
  intro q hq d hd
  obtain ⟨v, hv, l⟩ := V q hq d hd
  refine ⟨v, ?_, g.lay p l⟩
  rcases hv with ⟨k1, m, hn, hm⟩ | ⟨k1, cc, hc, hv⟩
  · exact .inl ⟨k1, m, hn.at' fun o e => k _ F.loc o e, hm⟩
  · exact .inr ⟨k1, cc, hc, cellAt hv fun o e => k _ (F.cell _ _ hc).1 o e⟩
theorem FlAt.go {P P' : Addr → Obj → Prop} {f : Flow} {fl : Fl} (x : FlAt P ρ f fl) (hP : ∀ a o, P a o → P' a o) (p : ∀ (i : Nat) (a : Addr), ρ[i]? = some a → ρ'[i]? = some a) : FlAt P' ρ' f fl := by
  cases fl with
  | next => exact x
  | ret d => obtain ⟨v, e, l⟩ := x; exact ⟨v, e, l.mono hP p⟩
theorem Own.weak (O : Own env fm own) (hs : ∀ a ∈ fm, a ∈ fm') : Own env fm' own := ⟨O.loc, O.cell, fun a h => hs a (O.sub a h)⟩
theorem mem_w (I : Addr) : ∀ a ∈ fm, a ∈ I :: fm := fun a h => List.mem_cons_of_mem _ h
theorem Wf.weak (W : Wf c fm' ρ st s) (hs : ∀ a ∈ fm, a ∈ fm') : Wf c fm ρ st s :=
  W.go ⟨s.heap, s.toks, rfl⟩ ((Go.refl _ _).sub fun a h => by
    rcases List.mem_append.mp h with h | h
    · exact List.mem_append_left _ (hs a h)
    · exact List.mem_append_right _ h) (fun _ _ _ e => e) (fun a ha => W.alive a (.inl (hs a ha))) fun a ha h => W.apart a ha (hs a h)
theorem Wf.fresh (W : Wf c fm ρ st s) {I : Addr} (h : s.heap.get? I = none) : I ∉ fm ++ ρ := fun hm => by
  obtain ⟨o, e⟩ := W.alive I (List.mem_append.mp hm)
  rw [h] at e; cases e
/-- a new object joins the frame -/
theorem Wf.add (W : Wf c fm ρ st s) {I : Addr} {o : Obj} (h : s.heap.get? I = none) (hs : ∃ h tk, s' = { s with heap := h, toks := tk }) (k : ∀ b o, b ≠ I → s.heap.get? b = some o → s'.heap.get? b = some o) (e : s'.heap.get? I = some o) :
    Wf c (I :: fm) ρ st s' ∧ Go (fm ++ ρ) (I :: fm ++ ρ) s.heap s'.heap := by
  have k' : ∀ b o, s.heap.get? b = some o → s'.heap.get? b = some o := fun b o e => k b o (fun q => by rw [q, h] at e; cases e) e
  have g : Go (fm ++ ρ) (I :: fm ++ ρ) s.heap s'.heap := (⟨fun b o _ e => k' b o e, fun _ h n => absurd h n⟩ : Go (fm ++ ρ) (fm ++ ρ) s.heap s'.heap).add h
  refine ⟨W.go hs g (fun a _ o e => k' a o e) (fun a ha => ?_) (fun a ha hm => ?_), g⟩
  · rcases List.mem_cons.mp ha with rfl | ha
    · exact ⟨o, e⟩
    · obtain ⟨o, q⟩ := W.alive a (.inl ha)
      exact ⟨o, k' a o q⟩
  · rcases List.mem_cons.mp hm with rfl | hm
    · exact W.fresh h (List.mem_append_right _ ha)
    · exact W.apart a ha hm

theorem none_of {hs : ∃ h tk, s' = { s with heap := h, toks := tk }} : True := trivial

theorem x_for {X : Str} {p : Pos} {i : Nat} {e : Expr} {b : List Stmt} {ds : List D} {fl : Fl} {bodyF : Vars → Store → Option (Fl × Vars × Store)} (R : Rm n A)
    (hx : (X, i) ∈ sc) (hk : kd X = some .local ∨ kd X = some .cell) (hf : ∀ env x, foldedSetIterable e env x = pure x)
    (h : EvE c A kd sc e σ st d st₁) (hi : items d = some ds) (hg : forGo bodyF i ds σ st₁ = some (fl, σ', st'))
    (hb : ∀ σ st fl σ' st', bodyF σ st = some (fl, σ', st') → ExL c A kd sc b σ st fl σ' st') : ExS c A kd sc (.For (.Name X p) e b [] pos) σ st fl σ' st' := by
  intro env fm own ρ s F O W V Q hQ
  refine wpAny_For (h env fm ρ s F W V _ fun v s1 ρ1 W1 A1 l => iter_ok R l hi fun o P St It ho hst => ?_) (hf env)
  have F1 := F.adv W A1
  have V1 := V.adv F W A1
  generalize hI : s1.heap.objs.size = I at *
  have hI0 : s1.heap.get? I = none := hI ▸ size_none _
  obtain ⟨W2, g2⟩ := W1.add (s' := { s1 with heap := s1.heap.push o }) hI0 ⟨_, s1.toks, rfl⟩ (fun b o' _ e => Heap.get?_push_of_some _ e) (hI ▸ Heap.get?_push_size _ ho)
  have k2 : ∀ b o', s1.heap.get? b = some o' → (s1.heap.push o).get? b = some o' := fun b o' e => Heap.get?_push_of_some _ e
  have hIf : I ∉ fm := fun q => W1.fresh hI0 (List.mem_append_left _ q)
  have neI : ∀ b o', s1.heap.get? b = some o' → b ≠ I := fun b o' e q => by rw [q, hI0] at e; cases e
  refine codeAny_forLoop (fun k s' => ∃ j ρi σi sti, k = ds.length + 1 - j ∧ j ≤ ds.length ∧ St j s'.heap ∧ Wf c (I :: fm) ρi sti s' ∧ Adv (own ++ ρ1) (own ++ ρi) s1 s' ∧ Fm kd sc env fm s'.heap ∧
    Vr sc env (I :: fm) ρi σi s'.heap ∧ forGo bodyF i (ds.drop j) σi sti = some (fl, σ', st')) ?_ (ds.length + 1)
    ⟨0, ρ1, σ, st₁, rfl, Nat.zero_le _, hst, W2, ⟨fun b o' _ e => k2 b o' e, fun _ h n => absurd h n, fun _ _ e => e⟩, F1.keep fun a _ o' e => k2 a o' e, V1.go F1 (fun a _ o' e => k2 a o' e) g2 (fun _ _ e => e), hg⟩
  rintro k s' ⟨j, ρi, σi, sti, rfl, hj, hSt, Wi, Ai, Fi, Vi, hgo⟩
  have gi : Go (fm ++ ρ1) (I :: fm ++ ρi) s1.heap s'.heap := (Ai.wide O.sub).add hI0
  by_cases hlt : j < ds.length
  · refine It.item j s' _ _ hlt hSt fun v' h1 tk1 hP hSt1 hk1 => ?_
    obtain ⟨d', hd', ld⟩ := It.laid j v' hP
    obtain ⟨W3, g3⟩ := Wi.chg (s' := { s' with heap := h1, toks := tk1 }) (a := I) (.head _) ⟨_, _, rfl⟩ hk1 (It.alive _ _ hSt1)
    have F3 : Fm kd sc env fm h1 := Fi.keep fun a ha o' e => hk1 a o' (fun q => hIf (q ▸ ha)) e
    have V3 : Vr sc env (I :: fm) ρi σi h1 := Vi.go Fi (fun a ha o' e => hk1 a o' (fun q => hIf (q ▸ ha)) e) g3 fun _ _ e => e
    have A3 : Adv (own ++ ρ1) (own ++ ρi) s1 { s' with heap := h1, toks := tk1 } := ⟨fun b o' hb e => hk1 b o' (neI b o' e) (Ai.keep b o' hb e), Ai.news, Ai.pre⟩
    have l3 : Lay (Out (I :: fm ++ ρi) h1) ρi v' d' := (gi.trans g3).lay Ai.down ld
    have O' := O.weak (mem_w I)
    refine wpAny_mono (wpAny_assign_Name (store_ok (F3.weak (mem_w I)) O' W3 V3 hx hk l3 fun s4 W4 A4 F4 V4 => ?_)) (fun _ _ q => q) fun _ _ q => q.elim
    rw [List.drop_eq_getElem_cons hlt] at hgo
    have hdj : ds[j] = d' := by rw [List.getElem?_eq_getElem hlt] at hd'; exact Option.some.inj hd'
    simp only [forGo] at hgo
    rw [hdj] at hgo
    obtain ⟨⟨fl', σ'', st''⟩, hbody, hgo⟩ := Option.bind_eq_some_iff.mp hgo
    have gI : ∀ {ρj : List Addr} {s5 : Shared}, Adv (own ++ ρi) (own ++ ρj) { s' with heap := h1, toks := tk1 } s5 → St (j + 1) s5.heap := fun {ρj s5} A5 => by
      have g5 := (gi.trans g3).trans (A5.wide O'.sub)
      refine It.frame _ _ _ hSt1 (fun o' e => A5.keep _ o' (fun q => ?_) e) (fun b o' x => ((gi.trans g3).out x).1) fun b o' x => (g5.out x).1
      rcases List.mem_append.mp q with q | q
      · exact hIf (O.sub _ q)
      · exact Wi.apart I q (.head _)
    refine wpAny_mono (hb _ _ _ _ _ hbody env (I :: fm) own ρi s4 F4 O' W4 V4 _ fun f s5 ρ5 W5 A5 F5 V5 hf => ?_) (fun _ _ q => q) fun _ _ q => q.elim
    cases fl' with
    | next =>
      cases hf
      exact ⟨ds.length + 1 - (j + 1), by omega, j + 1, ρ5, σ'', st'', rfl, hlt, gI (A4.trans A5), W5, A3.trans (A4.trans A5), F.back F5, V5, hgo⟩
    | ret d5 =>
      obtain ⟨u, rfl, lu⟩ := hf
      cases hgo
      have gw : Go (I :: fm ++ ρ5) (fm ++ ρ5) s5.heap s5.heap := (Go.refl _ _).sub fun a h => List.mem_cons_of_mem _ h
      exact hQ _ s5 ρ5 (W5.weak (mem_w I)) ((A1.up own).trans (A3.trans (A4.trans A5))) (F.back F5) (V5.go F5 (fun _ _ _ e => e) gw fun _ _ e => e) ⟨u, rfl, gw.lay (fun _ _ e => e) lu⟩
  · obtain rfl : j = ds.length := by omega
    rw [List.drop_length] at hgo
    cases hgo
    refine It.done s' _ _ hSt fun h1 tk1 hk1 => wpAny_execs_nil ?_
    have gd : Go (I :: fm ++ ρi) (fm ++ ρi) s'.heap h1 := ⟨fun b o' hb e => hk1 b o' (fun q => hb (q ▸ .head _)) e, fun a h n => absurd (List.mem_cons_of_mem _ h) n⟩
    have kf : ∀ a ∈ fm, ∀ o', s'.heap.get? a = some o' → h1.get? a = some o' := fun a ha o' e => hk1 a o' (fun q => hIf (q ▸ ha)) e
    have W6 : Wf c fm ρi st' { s' with heap := h1, toks := tk1 } := Wi.go ⟨_, _, rfl⟩ gd (fun a ha o' e => hk1 a o' (fun q => Wi.apart a ha (q ▸ .head _)) e) (fun a ha => let ⟨o', e⟩ := Wi.alive a (.inl (mem_w I a ha)); ⟨o', kf a ha o' e⟩)
      fun a ha q => Wi.apart a ha (mem_w I a q)
    exact hQ .next _ ρi W6 ((A1.up own).trans ⟨fun b o' hb e => hk1 b o' (neI b o' e) (Ai.keep b o' hb e), Ai.news, Ai.pre⟩) (Fi.keep kf) (Vi.go Fi kf gd fun _ _ e => e) rfl

noncomputable def nocomp : Expr → Bool
  | .ListComp .. => false
  | .SetComp .. => false
  | .DictComp .. => false
  | _ => true
theorem nocomp_swap {e : Expr} (h : nocomp e = true) (t : Option Expr) (l : Nat) (env : Env) : swapsWith e t l env = pure false := by
  cases e <;> first | rfl | (simp [nocomp] at h)
theorem x_asg {X : Str} {p : Pos} {i : Nat} {e : Expr} (hx : (X, i) ∈ sc) (hk : kd X = some .local ∨ kd X = some .cell) (hsw : ∀ env : Env, env.kindOf = kd → env.scope.kind = .function → swapsWith e (some (.Name X p)) pos.line env = pure false)
    (h : EvE c A kd sc e σ st d st₁) : ExS c A kd sc (.Assign [.Name X p] e pos) σ st .next (σ.set i d) st₁ := by
  intro env fm own ρ s F O W V Q hQ
  refine wpAny_Assign_Name (h env fm ρ s F W V _ fun v s1 ρ1 W1 A1 l => ?_) (hsw env F.kdE F.kind)
  exact store_ok (F.adv W A1) O W1 (V.adv F W A1) hx hk l fun s2 W2 A2 F2 V2 => hQ .next s2 ρ1 W2 ((A1.up own).trans A2) F2 V2 rfl
end
end Mine
end
section
open PySem PySem.W PySem.Calls PyProof.Rows PySem.Builtin
set_option Elab.async false
set_option linter.unusedVariables false
namespace Mine

noncomputable def clOf (env : Env) : List (Str × NameKind) → List (Str × Addr) → List (Str × Addr)
  | [], acc => acc
  | (n, k) :: r, acc => if k == .free then clOf env r ((n, (env.cells.lookup n).getD 0) :: acc) else clOf env r acc
theorem clOf_loop (env : Env) (f : Str × NameKind → List (Str × Addr) → Sem (ForInStep (List (Str × Addr))))
    (hf : ∀ n k cs, f (n, k) cs = if k == .free then (do let a ← cellOf env n; pure (.yield ((n, a) :: cs))) else pure (.yield cs)) :
    ∀ (names : List (Str × NameKind)) (acc : List (Str × Addr)), (∀ y ∈ names, y.2 = .free → ∃ cc, env.cells.lookup y.1 = some cc) → forIn names acc f = pure (clOf env names acc)
  | [], acc, _ => by rw [List.forIn_nil]; rfl
  | (n, k) :: r, acc, h => by
    have ih := clOf_loop env f hf r
    rw [List.forIn_cons, hf]
    unfold clOf
    by_cases hk : (k == NameKind.free) = true
    · rw [if_pos hk, if_pos hk]
      obtain ⟨cc, e⟩ := h (n, k) (.head _) (beq_iff_eq.mp hk)
      have : cellOf env n = pure cc := by unfold cellOf; rw [e]
      rw [this, e]
      exact ih _ fun y hy => h y (List.mem_cons_of_mem _ hy)
    · rw [if_neg hk, if_neg hk]
      exact ih _ fun y hy => h y (List.mem_cons_of_mem _ hy)
theorem closure_is {scope : Scope} {env : Env} (h : ∀ y ∈ scope.names, y.2 = .free → ∃ cc, env.cells.lookup y.1 = some cc) : closureFor scope env = pure (clOf env scope.names []) := by
  simp only [closureFor]
  rw [clOf_loop env _ (fun n k cs => by cases hkc : k == NameKind.free <;> simp [hkc]) scope.names [] h]
  rfl
theorem clOf_sound (env : Env) : ∀ (names : List (Str × NameKind)) (acc : List (Str × Addr)), (∀ y ∈ names, y.2 = .free → ∃ cc, env.cells.lookup y.1 = some cc) →
    (∀ y cc, acc.lookup y = some cc → env.cells.lookup y = some cc) → ∀ y cc, (clOf env names acc).lookup y = some cc → env.cells.lookup y = some cc
  | [], acc, _, ha, y, cc, e => ha y cc e
  | (n, k) :: r, acc, h, ha, y, cc, e => by
    unfold clOf at e
    have h' : ∀ y ∈ r, y.2 = .free → ∃ cc, env.cells.lookup y.1 = some cc := fun y hy => h y (List.mem_cons_of_mem _ hy)
    split at e
    · rename_i hk
      obtain ⟨c2, e2⟩ := h (n, k) (.head _) (beq_iff_eq.mp hk)
      refine clOf_sound env r _ h' (fun y cc q => ?_) y cc e
      rw [e2] at q
      simp only [List.lookup_cons] at q
      split at q
      · rename_i hb; cases q; rw [beq_iff_eq.mp hb]; exact e2
      · exact ha y cc q
    · exact clOf_sound env r acc h' ha y cc e
theorem clOf_has (env : Env) : ∀ (names : List (Str × NameKind)) (acc : List (Str × Addr)) (y : Str), ((y, NameKind.free) ∈ names ∨ (acc.lookup y).isSome = true) → ((clOf env names acc).lookup y).isSome = true
  | [], acc, y, h => by
    rcases h with h | h
    · cases h
    · exact h
  | (n, k) :: r, acc, y, h => by
    unfold clOf
    split
    · refine clOf_has env r _ y ?_
      rcases h with h | h
      · rcases List.mem_cons.mp h with e | h
        · cases e; right; simp [List.lookup_cons]
        · exact .inl h
      · right
        simp only [List.lookup_cons]
        split
        · rfl
        · exact h
    · rename_i hk
      refine clOf_has env r _ y ?_
      rcases h with h | h
      · rcases List.mem_cons.mp h with e | h
        · cases e; exact absurd rfl hk
        · exact .inl h
      · exact .inr h

/-- the names in a comprehension's own block -/
noncomputable def relK (kd : Str → Option NameKind) (names : List (Str × NameKind)) (x : Str) : Option NameKind :=
  (names.map fun (n, k) => if (k == .free && kd n == some .cell) = true then (n, .cell) else (n, k)).lookup x

structure CC (kd : Str → Option NameKind) (sc sc' : List (Str × Nat)) (scope : Scope) (X : Str) (ix : Nat) : Prop where
  kind : scope.kind = .function
  noCell : ∀ y ∈ scope.names, y.2 ≠ .cell
  names : ∀ y ∈ scope.names, y.2 = .local → scope.names.lookup y.1 = some .local
  hx : scope.names.lookup X = some .local
  free : ∀ y ∈ scope.names, y.2 = .free → ∃ p ∈ sc, p.1 = y.1 ∧ (kd y.1 = some .cell ∨ kd y.1 = some .free)
  kx : relK kd scope.names X = some .local
  sc' : ∀ p ∈ sc', p = (X, ix) ∨ (p ∈ sc ∧ p.2 ≠ ix ∧ p.1 ≠ X ∧ (p.1, NameKind.free) ∈ scope.names ∧ (relK kd scope.names p.1 = some .cell ∨ relK kd scope.names p.1 = some .free) ∧ (kd p.1 = some .cell ∨ kd p.1 = some .free))

section
variable {c : Cx} {A : Around} {kd : Str → Option NameKind} {sc sc' : List (Str × Nat)} {σ σ' σ₁ σ₂ : Vars} {st st₁ st₂ st₃ st' : Store} {x y d : D} {n : Nat} {pos : Pos} {env : Env} {fm fm' own ρ ρ' : List Addr} {s s' : Shared} {h h' : Heap} {scope : Scope} {X : Str} {ix : Nat}

theorem relabel_kd (F : Fm kd sc env fm h) : (fun x => (relabel scope env).names.lookup x) = relK kd scope.names := by
  funext x
  unfold relabel relK
  rw [← F.kdE, F.kind]
  simp

/-- the frame of a comprehension's block -/
theorem comp_fm (X' : CC kd sc sc' scope X ix) (F : Fm kd sc env fm h) {C : Addr} {m : Str → Option Value} (hC : C ∈ fm') (hs : ∀ a ∈ fm, a ∈ fm') (hn : h.Ns C m) (hCf : C ∉ fm) :
    Fm (relK kd scope.names) sc' (compEnvC scope (clOf env scope.names []) C env) fm' h := by
  have hfree : ∀ y ∈ scope.names, y.2 = .free → ∃ cc, env.cells.lookup y.1 = some cc := fun y hy hk => by
    obtain ⟨p, hp, e, hkd⟩ := X'.free y hy hk
    rcases F.kinds p hp with q | q
    · rw [e] at q; rcases hkd with r | r <;> rw [r] at q <;> cases q
    · exact e ▸ q.2
  have snd := clOf_sound env scope.names [] hfree (fun _ _ e => nomatch e)
  refine ⟨relabel_kd F, hC, ⟨m, hn⟩, F.glob, F.blt, X'.kind, fun y cc e => ?_, fun y z cc e1 e2 => F.inj y z cc (snd _ _ e1) (snd _ _ e2), fun p hp => ?_, fun p hp q hq e => ?_, fun p hp q hq e => ?_⟩
  · obtain ⟨h1, h2, h3⟩ := F.cell y cc (snd _ _ e)
    exact ⟨hs _ h1, h2, fun q => hCf ((show cc = C from q) ▸ h1)⟩
  · rcases X'.sc' p hp with rfl | ⟨h1, _, _, h4, h5, _⟩
    · exact .inl X'.kx
    · exact .inr ⟨h5, Option.isSome_iff_exists.mp (clOf_has env _ _ _ (.inl h4))⟩
  · rcases X'.sc' p hp with rfl | h1 <;> rcases X'.sc' q hq with rfl | h2
    · rfl
    · exact absurd e.symm h2.2.1
    · exact absurd e h1.2.1
    · exact F.one p h1.1 q h2.1 e
  · rcases X'.sc' p hp with rfl | h1 <;> rcases X'.sc' q hq with rfl | h2
    · rfl
    · exact absurd e.symm h2.2.2.1
    · exact absurd e h1.2.2.1
    · exact F.two p h1.1 q h2.1 e
theorem comp_vr (X' : CC kd sc sc' scope X ix) (F : Fm kd sc env fm h) (V : Vr sc env fm' ρ σ h) {C : Addr} {m : Str → Option Value} {v : Value} (hn : h.Ns C m) (hm : m X = some v) (hl : Lay (Out (fm' ++ ρ) h) ρ v d) :
    Vr sc' (compEnvC scope (clOf env scope.names []) C env) fm' ρ (σ.set ix d) h := by
  have hfree : ∀ y ∈ scope.names, y.2 = .free → ∃ cc, env.cells.lookup y.1 = some cc := fun y hy hk => by
    obtain ⟨p, hp, e, hkd⟩ := X'.free y hy hk
    rcases F.kinds p hp with q | q
    · rw [e] at q; rcases hkd with r | r <;> rw [r] at q <;> cases q
    · exact e ▸ q.2
  have snd := clOf_sound env scope.names [] hfree (fun _ _ e => nomatch e)
  have kk : ∀ y, (compEnvC scope (clOf env scope.names []) C env).kindOf y = relK kd scope.names y := fun y => congrFun (relabel_kd F) y
  intro p hp e he
  rw [Vars.get_set] at he
  rcases X'.sc' p hp with rfl | ⟨h1, h2, h3, h4, h5, h6⟩
  · rw [if_pos rfl] at he; cases he
    exact ⟨v, .inl ⟨(kk _).trans X'.kx, m, hn, hm⟩, hl⟩
  · rw [if_neg (Ne.symm h2)] at he
    obtain ⟨u, hu, l⟩ := V p h1 e he
    refine ⟨u, .inr ⟨by rw [kk]; exact h5, ?_⟩, l⟩
    rcases hu with ⟨k, _⟩ | ⟨k, cc, hc, hv⟩
    · rw [F.kdE] at k; rcases h6 with q | q <;> rw [q] at k <;> cases k
    · obtain ⟨c2, e2⟩ := Option.isSome_iff_exists.mp (clOf_has env scope.names [] p.1 (.inl h4))
      have := snd _ _ e2
      rw [hc] at this; cases this
      exact ⟨cc, e2, hv⟩

noncomputable def TestOk (c : Cx) (A : Around) (kd : Str → Option NameKind) (sc : List (Str × Nat)) (ifs : List Expr) (σ : Vars) (st : Store) (b : Bool) (st' : Store) : Prop :=
  ∀ (env : Env) (fm ρ : List Addr) (s : Shared), Fm kd sc env fm s.heap → Wf c fm ρ st s → Vr sc env fm ρ σ s.heap →
    ∀ Q : Bool → Shared → Prop, (∀ s' ρ', Wf c fm ρ' st' s' → Adv ρ ρ' s s' → Q b s') →
      wpAny (model c.prog c.w) A (forIn ifs true fun c r => if r = true then do let ok ← isTrue c env (eval c env); pure (ForInStep.yield ok) else pure (ForInStep.yield r)) Q (fun _ _ => False) s
theorem test_nil : TestOk c A kd sc [] σ st true st := fun env fm ρ s F W V Q hQ => wpAny_tests_nil (hQ _ ρ W (Adv.refl _ _))
theorem test_one {e : Expr} {b : Bool} (h : EvT c A kd sc e σ st b st') : TestOk c A kd sc [e] σ st b st' := fun env fm ρ s F W V Q hQ => wpAny_tests_one (h env fm ρ s F W V Q hQ)

theorem get_ne {h : Heap} {a b : Addr} {o : Obj} (e : h.get? b = some o) (n : h.get? a = none) : b ≠ a := fun q => by rw [q, n] at e; cases e

set_option maxHeartbeats 1000000 in
theorem comp_go {elt iter : Expr} {px : Pos} {ifs : List Expr} {ds out : List D} {pos' : Pos} {use : Option (Value → Sem Unit)} {Q : Value → Shared → Prop} {testF : Vars → Store → Option (Bool × Store)} {eltF : Vars → Store → Option (D × Store)}
    (R : Rm n A) (X' : CC kd sc sc' scope X ix) (hf : ∀ x, foldedSetIterable iter env x = pure x)
    (h : EvE c A kd sc iter σ st d st₁) (hi : items d = some ds) (hlen : ds.length ≤ lid) (hg : compGo testF eltF ix σ ds st₁ [] = some (out, st'))
    (ht : ∀ σ st b st', testF σ st = some (b, st') → TestOk c A (relK kd scope.names) sc' ifs σ st b st')
    (he : ∀ σ st d st', eltF σ st = some (d, st') → EvE c A (relK kd scope.names) sc' elt σ st d st')
    (F : Fm kd sc env fm s.heap) (W : Wf c fm ρ st s) (V : Vr sc env fm ρ σ s.heap)
    (hQ : ∀ C a vs nn m s5 ρ5, Wf c (C :: a :: fm) ρ5 st' s5 → Adv ρ ρ5 s s5 → s.heap.get? C = none → s.heap.get? a = none → C ≠ a → s5.heap.get? a = some (lstObj vs nn) → s5.heap.Ns C m → Lays (Out (C :: a :: fm ++ ρ5) s5.heap) ρ5 vs out →
      compPost (model c.prog c.w) A (fun _ _ => False) use Q (.ref a) C (.ok .next) s5) :
    wpAny (model c.prog c.w) A (comprehension (.ListComp elt [⟨.Name X px, iter, ifs, 0⟩] scope pos) scope env pos' (newList []) false (eval iter env) use) Q (fun _ _ => False) s := by
  have hfree : ∀ y ∈ scope.names, y.2 = .free → ∃ cc, env.cells.lookup y.1 = some cc := fun y hy hk => by
    obtain ⟨p, hp, e, hkd⟩ := X'.free y hy hk
    rcases F.kinds p hp with q | q
    · rw [e] at q; rcases hkd with r | r <;> rw [r] at q <;> cases q
    · exact e ▸ q.2
  refine wpAny_comprehension_free rfl hf (closure_is hfree) X'.kind X'.names (h env fm ρ s F W V _ fun v s1 ρ1 W1 A1 l => iter_ok R l hi fun o P St It ho hst => ?_)
  have F1 := F.adv W A1
  have V1 := V.adv F W A1
  refine wpAny_newObj_type (wpAny_newFunctionEnv X'.noCell (by intro y hy; cases hy) (fun h₁ hns₁ hsb₁ => ?_) X'.kind)
  dsimp only at hns₁ hsb₁ ⊢
  -- the three new objects
  generalize hI : s1.heap.objs.size = I at *
  have hI0 : s1.heap.get? I = none := hI ▸ size_none _
  generalize hH1 : s1.heap.push o = H1 at *
  have gI1 : H1.get? I = some o := hH1 ▸ hI ▸ Heap.get?_push_size _ ho
  have up1 : ∀ b o', s1.heap.get? b = some o' → H1.get? b = some o' := fun b o' e => hH1 ▸ Heap.get?_push_of_some _ e
  generalize ha : H1.objs.size = a at *
  have ha0 : H1.get? a = none := ha ▸ size_none _
  generalize hH2 : H1.push { cls := .type "list", dict := none, data := .seq ([] : List Value).toArray } = H2 at *
  have ga2 : H2.get? a = some (lstObj [] 0) := hH2 ▸ ha ▸ Heap.get?_push_size _ rfl
  have up2 : ∀ b o', H1.get? b = some o' → H2.get? b = some o' := fun b o' e => hH2 ▸ Heap.get?_push_of_some _ e
  generalize hC : H2.objs.size = C at *
  have hC0 : H2.get? C = none := hC ▸ size_none _
  have up3 : ∀ b o', H2.get? b = some o' → h₁.get? b = some o' := fun b o' e => hsb₁.extBut b o' (get_ne e hC0) (Heap.get?_push_of_some _ e)
  have up : ∀ b o', s1.heap.get? b = some o' → h₁.get? b = some o' := fun b o' e => up3 b o' (up2 b o' (up1 b o' e))
  have hIa : I ≠ a := get_ne gI1 ha0
  have hIC : I ≠ C := get_ne (up2 _ _ gI1) hC0
  have haC : a ≠ C := get_ne ga2 hC0
  have none1 : ∀ {q : Addr}, H1.get? q = none → s1.heap.get? q = none := fun {q} e => by
    cases q' : s1.heap.get? q with
    | none => rfl
    | some o' => rw [up1 q o' q'] at e; cases e
  have none2 : ∀ {q : Addr}, H2.get? q = none → H1.get? q = none := fun {q} e => by
    cases q' : H1.get? q with
    | none => rfl
    | some o' => rw [up2 q o' q'] at e; cases e
  have none0 : ∀ {q : Addr}, s1.heap.get? q = none → s.heap.get? q = none := fun {q} e => by
    cases q' : s.heap.get? q with
    | none => rfl
    | some o' =>
      by_cases hq : q ∈ ρ
      · obtain ⟨o2, e2⟩ := W1.alive q (.inr (A1.mem hq)); rw [e] at e2; cases e2
      · rw [A1.keep q o' hq q'] at e; cases e
  have hai : s1.heap.get? a = none := none1 ha0
  have hCi : s1.heap.get? C = none := none1 (none2 hC0)
  have nf : ∀ {q : Addr}, s1.heap.get? q = none → q ∉ fm ∧ q ∉ ρ1 := fun {q} e => by
    have := W1.fresh e; rw [List.mem_append, not_or] at this; exact this
  have ms : ∀ q ∈ fm, q ∈ C :: a :: I :: fm := fun q hq => List.mem_cons_of_mem _ (List.mem_cons_of_mem _ (List.mem_cons_of_mem _ hq))
  have nb : ∀ {ρi : List Addr} {s' : Shared}, Adv ρ1 ρi s1 s' → Go (fm ++ ρ1) (C :: a :: I :: fm ++ ρi) s1.heap s'.heap := fun {ρi s'} A => (((A.go fm).add hI0).add hai).add hCi
  -- the first state
  let s3 : Shared := { s1 with heap := h₁, toks := s1.toks + ([] : List (Str × Value)).length }
  have A3 : Adv ρ1 ρ1 s1 s3 := ⟨fun b o' _ e => up b o' e, fun _ h n => absurd h n, fun _ _ e => e⟩
  have W3 : Wf c (C :: a :: I :: fm) ρ1 st₁ s3 := by
    refine W1.go ⟨_, _, rfl⟩ (nb A3) (fun b _ o' e => up b o' e) (fun b hb => ?_) (fun b hb hm => ?_)
    · rcases List.mem_cons.mp hb with rfl | hb
      · exact let ⟨o', _, _, q, _⟩ := hns₁; ⟨o', q⟩
      · rcases List.mem_cons.mp hb with rfl | hb
        · exact ⟨_, up3 _ _ ga2⟩
        · rcases List.mem_cons.mp hb with rfl | hb
          · exact ⟨_, up3 _ _ (up2 _ _ gI1)⟩
          · obtain ⟨o', e⟩ := W1.alive b (.inl hb); exact ⟨o', up b o' e⟩
    · rcases List.mem_cons.mp hm with rfl | hm
      · exact (nf hCi).2 hb
      · rcases List.mem_cons.mp hm with rfl | hm
        · exact (nf hai).2 hb
        · rcases List.mem_cons.mp hm with rfl | hm
          · exact (nf hI0).2 hb
          · exact W1.apart b hb hm
  have St3 : St 0 h₁ := It.frame _ _ _ hst (fun o' e => up3 _ _ (up2 _ _ e)) (fun b o' q => up1 _ _ q.1) fun b o' q => up _ _ q.1
  have V3 : Vr sc env (C :: a :: I :: fm) ρ1 σ h₁ := V1.go F1 (fun b _ o' e => up b o' e) (nb A3) fun _ _ e => e
  have F3 : Fm kd sc env fm h₁ := F1.keep fun b _ o' e => up b o' e
  have loop : codeAny (model c.prog c.w) A (.compLoop (.ListComp elt [⟨.Name X px, iter, ifs, 0⟩] scope pos) 0 (.ref I) (.ref a) (compEnvC scope (clOf env scope.names []) C env))
      (compPost (model c.prog c.w) A (fun _ _ => False) use Q (.ref a) C) s3 := by
    refine codeAny_compLoop_tests (fun k s' => ∃ j ρi sti acc vs nn m, k = ds.length + 1 - j ∧ j ≤ ds.length ∧ St j s'.heap ∧ Wf c (C :: a :: I :: fm) ρi sti s' ∧ Adv ρ1 ρi s1 s' ∧ Fm kd sc env fm s'.heap ∧
      Vr sc env (C :: a :: I :: fm) ρi σ s'.heap ∧ s'.heap.get? a = some (lstObj vs nn) ∧ s'.heap.Ns C m ∧ Lays (Out (C :: a :: I :: fm ++ ρi) s'.heap) ρi vs acc ∧ acc.length ≤ j ∧ compGo testF eltF ix σ (ds.drop j) sti acc = some (out, st')) ?_ (ds.length + 1)
      ⟨0, ρ1, st₁, [], [], 0, _, rfl, Nat.zero_le _, St3, W3, A3, F3, V3, up3 _ _ ga2, hns₁, .nil, Nat.le_refl _, hg⟩
    rintro k s' ⟨j, ρi, sti, acc, vs, nn, m, rfl, hj, hSt, Wi, Ai, Fi, Vi, gai, hni, lsi, hacc, hgo⟩
    have gi := nb Ai
    have inI : I ∈ C :: a :: I :: fm := .tail _ (.tail _ (.head _))
    by_cases hlt : j < ds.length
    · refine It.item j s' _ _ hlt hSt fun v' h1 tk1 hP hSt1 hk1 => ?_
      obtain ⟨d', hd', ld⟩ := It.laid j v' hP
      obtain ⟨W4, g4⟩ := Wi.chg (s' := { s' with heap := h1, toks := tk1 }) inI ⟨_, _, rfl⟩ hk1 (It.alive _ _ hSt1)
      have kf : ∀ b ∈ fm, ∀ o', s'.heap.get? b = some o' → h1.get? b = some o' := fun b hb o' e => hk1 b o' (fun q => (nf hI0).1 (q ▸ hb)) e
      have ga4 : h1.get? a = some (lstObj vs nn) := hk1 _ _ (Ne.symm hIa) gai
      have hn4 : h1.Ns C m := hni.at' fun o' e => hk1 _ o' (Ne.symm hIC) e
      refine wpAny_assign_Name (wpAny_storeName_local (name := X) ((congrFun (relabel_kd F) X).trans X'.kx) hn4 (fun h2 hn5 hs5 => ?_) (by simp [compEnvC, relabel, X'.kind]))
      have hk5 : ∀ b o', b ≠ C → h1.get? b = some o' → h2.get? b = some o' := hs5.extBut
      obtain ⟨W5, g5⟩ := W4.chg (s' := { s' with heap := h2, toks := tk1 + 1 }) (a := C) (.head _) ⟨_, _, rfl⟩ hk5 (let ⟨o', _, _, q, _⟩ := hn5; ⟨o', q⟩)
      have kf5 : ∀ b ∈ fm, ∀ o', s'.heap.get? b = some o' → h2.get? b = some o' := fun b hb o' e => hk5 b o' (fun q => (nf hCi).1 (q ▸ hb)) (kf b hb o' e)
      have F5 : Fm kd sc env fm h2 := Fi.keep kf5
      have V5 : Vr sc env (C :: a :: I :: fm) ρi σ h2 := Vi.go Fi kf5 (g4.trans g5) fun _ _ e => e
      have l5 : Lay (Out (C :: a :: I :: fm ++ ρi) h2) ρi v' d' := (gi.trans (g4.trans g5)).lay Ai.pre ld
      have ga5 : h2.get? a = some (lstObj vs nn) := hk5 _ _ haC ga4
      have FF := comp_fm (C := C) X' F5 (.head _) ms hn5 (nf hCi).1
      have VV := comp_vr (C := C) (v := v') (d := d') X' F5 V5 hn5 (by simp) l5
      rw [List.drop_eq_getElem_cons hlt] at hgo
      have hdj : ds[j] = d' := by rw [List.getElem?_eq_getElem hlt] at hd'; exact Option.some.inj hd'
      simp only [compGo] at hgo
      rw [hdj] at hgo
      obtain ⟨⟨b, st5⟩, htest, hgo⟩ := Option.bind_eq_some_iff.mp hgo
      have A5 : Adv ρ1 ρi s1 { s' with heap := h2, toks := tk1 + 1 } := ⟨fun b o' hb e => hk5 b o' (get_ne e hCi) (hk1 b o' (get_ne e hI0) (Ai.keep b o' hb e)), Ai.news, Ai.pre⟩
      have nI : ∀ {ρj : List Addr} {stj : Store} {sj : Shared}, Wf c (C :: a :: I :: fm) ρj stj sj → I ∉ ρj ∧ a ∉ ρj ∧ C ∉ ρj := fun {ρj stj sj} Wj => ⟨fun q => Wj.apart _ q inI, fun q => Wj.apart _ q (.tail _ (.head _)), fun q => Wj.apart _ q (.head _)⟩
      refine wpAny_mono (ht _ _ _ _ htest _ _ ρi _ FF W5 VV _ fun s6 ρ6 W6 A6 => ?_) (fun _ _ q => q) fun _ _ q => q.elim
      have fmk : ∀ {ρj : List Addr} {sj : Shared}, Adv ρi ρj { s' with heap := h2, toks := tk1 + 1 } sj → ∀ q ∈ C :: a :: I :: fm, ∀ o', h2.get? q = some o' → sj.heap.get? q = some o' := fun {ρj sj} Aj q hq o' e => Aj.keep q o' (fun r => W5.apart q r hq) e
      have St2 : St (j + 1) h2 := It.frame _ _ _ hSt1 (fun o' e => hk5 _ _ hIC e) (fun b o' q => ((gi.trans g4).out q).1) fun b o' q => ((gi.trans (g4.trans g5)).out q).1
      have stj : ∀ {ρj : List Addr} {sj : Shared}, Adv ρi ρj { s' with heap := h2, toks := tk1 + 1 } sj → St (j + 1) sj.heap := fun {ρj sj} Aj =>
        It.frame _ _ _ St2 (fun o' e => fmk Aj _ inI o' e) (fun b o' q => ((gi.trans (g4.trans g5)).out q).1) fun b o' q => (((gi.trans (g4.trans g5)).trans (Aj.go _)).out q).1
      have ls2 : Lays (Out (C :: a :: I :: fm ++ ρi) h2) ρi vs acc := (g4.trans g5).lays (fun _ _ e => e) lsi
      cases b with
      | false =>
        rw [if_neg (by decide)]
        refine ⟨ds.length + 1 - (j + 1), by omega, j + 1, ρ6, st5, acc, vs, nn, _, rfl, hlt, stj A6, W6, A5.trans A6, F5.keep fun q hq => fmk A6 q (ms q hq), V5.go F5 (fun q hq => fmk A6 q (ms q hq)) (A6.go _) A6.pre,
          fmk A6 _ (.tail _ (.head _)) _ ga5, hn5.at' fun o' e => fmk A6 _ (.head _) o' e, A6.lays ls2, by omega, hgo⟩
      | true =>
        rw [if_pos rfl]
        obtain ⟨⟨dy, st7⟩, helt, hgo⟩ := Option.bind_eq_some_iff.mp hgo
        have FF6 := FF.adv W5 A6
        have VV6 := VV.adv FF W5 A6
        refine wpAny_mono (he _ _ _ _ helt _ _ ρ6 s6 FF6 W6 VV6 _ fun y s7 ρ7 W7 A7 ly => ?_) (fun _ _ q => q) fun _ _ q => q.elim
        have A67 := A6.trans A7
        have ga7 : s7.heap.PlainList a vs.toArray := ⟨nn, fmk A67 _ (.tail _ (.head _)) _ ga5⟩
        have ls7 := A67.lays ls2
        refine wpAny_list_append_plain ga7 (fun h8 hl8 hs8 => ?_) (by rw [List.size_toArray, ls7.length]; exact Nat.le_trans (Nat.le_trans hacc hj) (Nat.le_trans hlen (by decide)))
        obtain ⟨n8, e8⟩ := hl8
        have hk8 : ∀ b o', b ≠ a → s7.heap.get? b = some o' → h8.get? b = some o' := hs8.extBut
        obtain ⟨W8, g8⟩ := W7.chg (s' := { s7 with heap := h8 }) (a := a) (.tail _ (.head _)) ⟨_, s7.toks, rfl⟩ hk8 ⟨_, e8⟩
        have kf8 : ∀ b ∈ fm, ∀ o', s7.heap.get? b = some o' → h8.get? b = some o' := fun b hb o' e => hk8 b o' (fun q => (nf hai).1 (q ▸ hb)) e
        have F7 : Fm kd sc env fm s7.heap := F5.keep fun q hq => fmk A67 q (ms q hq)
        have V7 : Vr sc env (C :: a :: I :: fm) ρ7 σ s7.heap := V5.go F5 (fun q hq => fmk A67 q (ms q hq)) (A67.go _) A67.pre
        have g0 := (gi.trans (g4.trans g5)).trans (A67.go (C :: a :: I :: fm))
        refine ⟨ds.length + 1 - (j + 1), by omega, j + 1, ρ7, st7, acc ++ [dy], vs ++ [y], n8, _, rfl, hlt, It.frame _ _ _ (stj A67) (fun o' e => hk8 _ _ hIa e) (fun b o' q => (g0.out q).1) (fun b o' q => ((g0.trans g8).out q).1), W8,
          ⟨fun b o' hb e => hk8 b o' (get_ne e hai) ((A5.trans A67).keep b o' hb e), (A5.trans A67).news, (A5.trans A67).pre⟩, F7.keep kf8, V7.go F7 kf8 g8 (fun _ _ e => e), ?_,
          (hn5.at' fun o' e => fmk A67 _ (.head _) o' e).at' fun o' e => hk8 _ o' (Ne.symm haC) e, (g8.lays (fun _ _ e => e) ls7).append (.one (g8.lay (fun _ _ e => e) ly)), by rw [List.length_append]; simp; omega, hgo⟩
        rw [e8]; simp [lstObj]
    · obtain rfl : j = ds.length := by omega
      rw [List.drop_length] at hgo
      cases hgo
      refine It.done s' _ _ hSt fun h1 tk1 hk1 => ?_
      have gd : Go (C :: a :: I :: fm ++ ρi) (C :: a :: fm ++ ρi) s'.heap h1 := ⟨fun b o' hb e => hk1 b o' (fun q => hb (by rw [q]; exact List.mem_append_left _ inI)) e, fun q hq hn => absurd (by
        rcases List.mem_append.mp hq with hq | hq
        · rcases List.mem_cons.mp hq with rfl | hq
          · exact List.mem_append_left _ (.head _)
          · rcases List.mem_cons.mp hq with rfl | hq
            · exact List.mem_append_left _ (.tail _ (.head _))
            · exact List.mem_append_left _ (ms _ hq)
        · exact List.mem_append_right _ hq) hn⟩
      have kk : ∀ q, q ≠ I → ∀ o', s'.heap.get? q = some o' → h1.get? q = some o' := fun q hq o' e => hk1 q o' hq e
      have W6 : Wf c (C :: a :: fm) ρi st' { s' with heap := h1, toks := tk1 } := by
        refine Wi.go ⟨_, _, rfl⟩ gd (fun q hq o' e => kk q (fun r => Wi.apart q hq (r ▸ inI)) o' e) (fun q hq => ?_) (fun q hq hm => ?_)
        · have hq' : q ∈ C :: a :: I :: fm ∧ q ≠ I := by
            rcases List.mem_cons.mp hq with rfl | hq
            · exact ⟨.head _, Ne.symm hIC⟩
            · rcases List.mem_cons.mp hq with rfl | hq
              · exact ⟨.tail _ (.head _), Ne.symm hIa⟩
              · exact ⟨ms _ hq, fun r => (nf hI0).1 (r ▸ hq)⟩
          obtain ⟨o', e⟩ := Wi.alive q (.inl hq'.1)
          exact ⟨o', kk q hq'.2 o' e⟩
        · rcases List.mem_cons.mp hm with rfl | hm
          · exact Wi.apart _ hq (.head _)
          · rcases List.mem_cons.mp hm with rfl | hm
            · exact Wi.apart _ hq (.tail _ (.head _))
            · exact Wi.apart _ hq (ms _ hm)
      exact hQ C a vs nn m _ ρi W6 (A1.trans ⟨fun b o' hb e => kk b (get_ne e hI0) o' (Ai.keep b o' hb e), Ai.news, Ai.pre⟩) (none0 hCi) (none0 hai) (Ne.symm haC) (kk _ (Ne.symm hIa) _ gai) (hni.at' fun o' e => kk _ (Ne.symm hIC) o' e) (gd.lays (fun _ _ e => e) lsi)
  exact codeAny_compStart_list loop (wpAny_mono (It.self 0 s3 (fun v s' => v = .ref I ∧ s' = s3) (fun _ _ => False) St3 ⟨rfl, rfl⟩) (fun v s' q => by obtain ⟨rfl, rfl⟩ := q; exact loop) fun _ _ q => q.elim)
end
end Mine
end
section
open PySem PySem.W PySem.Calls PyProof.Rows PySem.Builtin
set_option Elab.async false
set_option linter.unusedVariables false
namespace Mine

section
variable {c : Cx} {A : Around} {kd : Str → Option NameKind} {sc sc' : List (Str × Nat)} {σ σ' σ₁ σ₂ : Vars} {st st₁ st₂ st₃ st' : Store} {x y d : D} {n : Nat} {pos : Pos} {env : Env} {fm fm' own ρ ρ' : List Addr} {s s' : Shared} {h h' : Heap} {scope : Scope} {X : Str} {ix : Nat}

/-- the objects at the head of a frame go -/
theorem mem2 {a C : Addr} : ∀ q ∈ fm, q ∈ C :: a :: fm := fun q hq => List.mem_cons_of_mem _ (List.mem_cons_of_mem _ hq)
theorem Wf.drop1 {C : Addr} (W : Wf c (C :: fm) ρ st s) (hC : C ∉ fm) {h' : Heap} (k : ∀ b o, b ≠ C → s.heap.get? b = some o → h'.get? b = some o) :
    Wf c fm ρ st { s with heap := h' } ∧ Go (C :: fm ++ ρ) (fm ++ ρ) s.heap h' := by
  have g : Go (C :: fm ++ ρ) (fm ++ ρ) s.heap h' := ⟨fun b o hb e => k b o (fun q => hb (by rw [q]; exact List.mem_append_left _ (.head _))) e, fun q hq hn => absurd (List.mem_cons_of_mem _ hq) hn⟩
  exact ⟨W.go ⟨_, s.toks, rfl⟩ g (fun b hb o e => k b o (fun q => W.apart b hb (q ▸ .head _)) e) (fun b hb => let ⟨o, e⟩ := W.alive b (.inl (mem_w _ _ hb)); ⟨o, k b o (fun q => hC (q ▸ hb)) e⟩) fun b hb q => W.apart b hb (mem_w _ _ q), g⟩

/-- an expression that makes a list of its own -/
noncomputable def EvNew (c : Cx) (A : Around) (kd : Str → Option NameKind) (sc : List (Str × Nat)) (e : Expr) (σ : Vars) (st : Store) (ds : List D) (st' : Store) : Prop :=
  ∀ (env : Env) (fm ρ : List Addr) (s : Shared), Fm kd sc env fm s.heap → Wf c fm ρ st s → Vr sc env fm ρ σ s.heap →
    ∀ Q : Value → Shared → Prop, (∀ a vs nn s' ρ', Wf c (a :: fm) ρ' st' s' → Adv ρ ρ' s s' → s.heap.get? a = none → s'.heap.get? a = some (lstObj vs nn) → Lays (Out (a :: fm ++ ρ') s'.heap) ρ' vs ds → Q (.ref a) s') →
      wpAny (model c.prog c.w) A (eval e env) Q (fun _ _ => False) s
theorem fresh_fm (W : Wf c fm ρ st s) {a : Addr} (h : s.heap.get? a = none) : a ∉ fm ∧ a ∉ ρ := by
  have := W.fresh h; rw [List.mem_append, not_or] at this; exact this
theorem EvNew.val {e : Expr} {ds : List D} (h : EvNew c A kd sc e σ st ds st') : EvE c A kd sc e σ st (.lst ds) st' := by
  intro env fm ρ s F W V Q hQ
  refine h env fm ρ s F W V Q fun a vs nn s5 ρ5 W5 A5 ha e5 l5 => ?_
  have gw : Go (a :: fm ++ ρ5) (fm ++ ρ5) s5.heap s5.heap := (Go.refl _ _).sub fun q h => List.mem_cons_of_mem _ h
  refine hQ _ s5 ρ5 (W5.weak (mem_w a)) A5 (.lst (n := nn) ⟨e5, fun hm => ?_⟩ (gw.lays (fun _ _ e => e) l5))
  rcases List.mem_append.mp hm with q | q
  · exact (fresh_fm W ha).1 q
  · exact W5.apart a q (.head _)

theorem new_comp {elt iter : Expr} {px : Pos} {ifs : List Expr} {ds out : List D} {testF : Vars → Store → Option (Bool × Store)} {eltF : Vars → Store → Option (D × Store)}
    (R : Rm n A) (X' : CC kd sc sc' scope X ix) (hf : ∀ env x, foldedSetIterable iter env x = pure x)
    (h : EvE c A kd sc iter σ st d st₁) (hi : items d = some ds) (hlen : ds.length ≤ lid) (hg : compGo testF eltF ix σ ds st₁ [] = some (out, st'))
    (ht : ∀ σ st b st', testF σ st = some (b, st') → TestOk c A (relK kd scope.names) sc' ifs σ st b st')
    (he : ∀ σ st d st', eltF σ st = some (d, st') → EvE c A (relK kd scope.names) sc' elt σ st d st') : EvNew c A kd sc (.ListComp elt [⟨.Name X px, iter, ifs, 0⟩] scope pos) σ st out st' := by
  intro env fm ρ s F W V Q hQ
  rw [eval_ListComp]
  refine comp_go R X' (hf env) h hi hlen hg ht he F W V fun C a vs nn m s5 ρ5 W5 A5 hC ha hCa e5 hn l5 => ⟨m, hn, fun h6 hs6 => ?_⟩
  have k6 : ∀ b o, b ≠ C → s5.heap.get? b = some o → h6.get? b = some o := hs6.extBut
  have hCf : C ∉ a :: fm := fun q => by
    rcases List.mem_cons.mp q with q | q
    · exact hCa q
    · exact (fresh_fm W hC).1 q
  obtain ⟨W6, g6⟩ := W5.drop1 (fm := a :: fm) hCf k6
  exact hQ a vs nn _ ρ5 W6 ⟨fun b o hb e => k6 b o (get_ne e hC) (A5.keep b o hb e), A5.news, A5.pre⟩ ha (k6 _ _ (Ne.symm hCa) e5) (g6.lays (fun _ _ e => e) l5)

/-- a list of one's own becomes one that may change -/
theorem Wf.ml {a : Addr} {vs : List Value} {nn : Nat} {ds : List D} (W : Wf c (a :: fm) ρ st s) (ha : a ∉ fm) (e : s.heap.get? a = some (lstObj vs nn)) (l : Lays (Out (a :: fm ++ ρ) s.heap) ρ vs ds) :
    Wf c fm (ρ ++ [a]) (st ++ [.ml ds]) s ∧ Go (a :: fm ++ ρ) (fm ++ (ρ ++ [a])) s.heap s.heap := by
  have g : Go (a :: fm ++ ρ) (fm ++ (ρ ++ [a])) s.heap s.heap := (Go.refl _ _).sub fun q h => by
    rcases List.mem_append.mp h with h | h
    · exact List.mem_append_left _ (mem_w _ _ h)
    · rcases List.mem_append.mp h with h | h
      · exact List.mem_append_right _ h
      · rw [List.mem_singleton.mp h]; exact .head _
  have p : ∀ (i : Nat) (b : Addr), ρ[i]? = some b → (ρ ++ [a])[i]? = some b := fun i b q => by
    rw [List.getElem?_append_left (List.getElem?_eq_some_iff.mp q).1]; exact q
  refine ⟨⟨W.same, W.base, fun b hb => ?_, fun b hb => ?_, by simp [W.len], fun i b mo e1 e2 => ?_, ?_, fun b hb => ?_⟩, g⟩
  · rcases hb with hb | hb
    · exact W.alive b (.inl (mem_w _ _ hb))
    · rcases List.mem_append.mp hb with hb | hb
      · exact W.alive b (.inr hb)
      · rw [List.mem_singleton.mp hb]; exact ⟨_, e⟩
  · rcases hb with hb | hb
    · exact W.new b (.inl (mem_w _ _ hb))
    · rcases List.mem_append.mp hb with hb | hb
      · exact W.new b (.inr hb)
      · rw [List.mem_singleton.mp hb]; exact W.new a (.inl (.head _))
  · by_cases hi : i < ρ.length
    · rw [List.getElem?_append_left hi] at e1
      rw [List.getElem?_append_left (by rw [← W.len]; exact hi)] at e2
      exact (W.store i b mo e1 e2).mono (fun _ _ q => g.out q) p fun _ q => q
    · have hi' : i = ρ.length := by
        have := (List.getElem?_eq_some_iff.mp e1).1
        rw [List.length_append, List.length_singleton] at this; omega
      subst hi'
      rw [List.getElem?_append_right (Nat.le_refl _)] at e1
      rw [W.len, List.getElem?_append_right (Nat.le_refl _)] at e2
      simp at e1 e2
      subst e1; subst e2
      exact ⟨vs, ⟨_, e, rfl, _, rfl⟩, g.lays p l⟩
  · rw [List.nodup_append]
    refine ⟨W.nodup, by simp, fun b hb q hq => ?_⟩
    rw [List.mem_singleton.mp hq]
    exact fun r => W.apart b hb (r ▸ .head _)
  · rcases List.mem_append.mp hb with hb | hb
    · exact fun q => W.apart b hb (mem_w _ _ q)
    · rw [List.mem_singleton.mp hb]; exact ha

theorem x_asgM {Y : Str} {p : Pos} {i : Nat} {e : Expr} {ds : List D} (hx : (Y, i) ∈ sc) (hk : kd Y = some .local ∨ kd Y = some .cell) (hsw : ∀ env : Env, env.kindOf = kd → env.scope.kind = .function → swapsWith e (some (.Name Y p)) pos.line env = pure false)
    (h : EvNew c A kd sc e σ st ds st₁) : ExS c A kd sc (.Assign [.Name Y p] e pos) σ st .next (σ.set i (.ref st₁.length)) (st₁ ++ [.ml ds]) := by
  intro env fm own ρ s F O W V Q hQ
  refine wpAny_Assign_Name (h env fm ρ s F W V _ fun a vs nn s1 ρ1 W1 A1 ha e1 l1 => ?_) (hsw env F.kdE F.kind)
  have hf := fresh_fm W ha
  obtain ⟨W2, g2⟩ := W1.ml hf.1 e1 l1
  have A2 : Adv ρ (ρ1 ++ [a]) s s1 := ⟨A1.keep, fun q hq hn => by
    rcases List.mem_append.mp hq with hq | hq
    · exact A1.news q hq hn
    · rw [List.mem_singleton.mp hq]; exact ha, fun i b q => by
    have := A1.pre i b q
    rw [List.getElem?_append_left (List.getElem?_eq_some_iff.mp this).1]; exact this⟩
  have F1 : Fm kd sc env fm s1.heap := F.adv W A2
  have V1 := V.adv F W A2
  refine store_ok F1 O W2 V1 hx hk (.ref (i := st₁.length) ?_) fun s3 W3 A3 F3 V3 => hQ .next s3 _ W3 ((A2.up own).trans A3) F3 V3 rfl
  rw [← W1.len, List.getElem?_append_right (Nat.le_refl _)]; simp

/-- which of two roads a comprehension's assignment takes -/
noncomputable def swB (kd : Str → Option NameKind) (Y : Str) (p : Pos) (scope : Scope) (cp : Pos) : Bool :=
  kd Y == some .local && p.line == cp.line && !(scope.names.any fun (n, k) => n == Y && (k == .local || k == .cell))
theorem swap_is {Y : Str} {p cp : Pos} {elt : Expr} {gens : List Comprehension} {l : Nat} {env : Env} (e : env.kindOf = kd) (k : env.scope.kind = .function) :
    swapsWith (.ListComp elt gens scope cp) (some (.Name Y p)) l env = pure (swB kd Y p scope cp) := by
  show (pure (env.blockKind == .function && env.kindOf Y == some .local && p.line == cp.line && !(scope.names.any fun (n, k) => n == Y && (k == .local || k == .cell))) : Sem Bool) = _
  have : env.blockKind = .function := by unfold Env.blockKind; rw [k]; rfl
  rw [this, e]
  rfl

theorem x_swap {Y : Str} {p : Pos} {i : Nat} {elt iter : Expr} {px cp : Pos} {ifs : List Expr} {ds out : List D} {testF : Vars → Store → Option (Bool × Store)} {eltF : Vars → Store → Option (D × Store)}
    (R : Rm n A) (hx : (Y, i) ∈ sc) (hk : kd Y = some .local ∨ kd Y = some .cell) (hs : swB kd Y p scope cp = true) (X' : CC kd sc sc' scope X ix) (hf : ∀ env x, foldedSetIterable iter env x = pure x)
    (h : EvE c A kd sc iter σ st d st₁) (hi : items d = some ds) (hlen : ds.length ≤ lid) (hg : compGo testF eltF ix σ ds st₁ [] = some (out, st'))
    (ht : ∀ σ st b st', testF σ st = some (b, st') → TestOk c A (relK kd scope.names) sc' ifs σ st b st')
    (he : ∀ σ st d st', eltF σ st = some (d, st') → EvE c A (relK kd scope.names) sc' elt σ st d st') :
    ExS c A kd sc (.Assign [.Name Y p] (.ListComp elt [⟨.Name X px, iter, ifs, 0⟩] scope cp) pos) σ st .next (σ.set i (.lst out)) st' := by
  intro env fm own ρ s F O W V Q hQ
  rw [show exec (.Assign [.Name Y p] (.ListComp elt [⟨.Name X px, iter, ifs, 0⟩] scope cp) pos) env = _ from exec_Assign_Name_used _ _ _ _ ((swap_is F.kdE F.kind).trans (congrArg pure hs))]
  refine wpAny_bind (wpAny_standAt (wpAny_bind ?_))
  show wpAny _ A (do let _ ← comprehension (.ListComp elt [⟨.Name X px, iter, ifs, 0⟩] scope cp) scope env _ (newList []) false (eval iter env) (some (assign (.Name Y p) env))) _ _ s
  refine wpAny_bind (wpAny_mono (comp_go (use := some (assign (.Name Y p) env)) (Q := fun _ s' => Q .next s') R X' (hf env) h hi hlen hg ht he F W V fun C a vs nn m s5 ρ5 W5 A5 hC ha hCa e5 hn l5 => ?_) (fun _ s' hq => wpAny_pure (wpAny_pure hq)) fun _ _ e => e)
  have hCf := fresh_fm W hC
  have haf := fresh_fm W ha
  have sub : ∀ q ∈ C :: fm, q ∈ C :: a :: fm := fun q hq => by
    rcases List.mem_cons.mp hq with rfl | hq
    · exact .head _
    · exact mem2 _ hq
  have W6 : Wf c (C :: fm) ρ5 st' s5 := W5.weak sub
  have g6 : Go (C :: a :: fm ++ ρ5) (C :: fm ++ ρ5) s5.heap s5.heap := (Go.refl _ _).sub fun q h => by
    rcases List.mem_append.mp h with h | h
    · exact List.mem_append_left _ (sub _ h)
    · exact List.mem_append_right _ h
  have F5 := F.adv W A5
  have V5 : Vr sc env (C :: fm) ρ5 σ s5.heap := V.go F (fun q hq o e => A5.fm_keep W hq e) ((A5.go fm).add hC) A5.pre
  have hout : Out (C :: fm ++ ρ5) s5.heap a (lstObj vs nn) := ⟨e5, fun hm => by
    rcases List.mem_append.mp hm with q | q
    · rcases List.mem_cons.mp q with q | q
      · exact hCa q.symm
      · exact haf.1 q
    · exact W5.apart a q (.tail _ (.head _))⟩
  show wpAny _ A (assign (.Name Y p) env (.ref a)) _ _ _
  refine wpAny_assign_Name (store_ok (F5.weak (mem_w C)) (O.weak (mem_w C)) W6 V5 hx hk (.lst (n := nn) hout (g6.lays (fun _ _ e => e) l5)) fun s7 W7 A7 F7 V7 => ⟨m, ?_, fun h8 hs8 => ?_⟩)
  · refine hn.at' fun o e => A7.keep _ o (fun q => ?_) e
    rcases List.mem_append.mp q with q | q
    · exact hCf.1 (O.sub _ q)
    · exact W5.apart C q (.head _)
  · have k8 : ∀ b o, b ≠ C → s7.heap.get? b = some o → h8.get? b = some o := hs8.extBut
    obtain ⟨W8, g8⟩ := W7.drop1 hCf.1 k8
    have kf : ∀ q ∈ fm, ∀ o, s7.heap.get? q = some o → h8.get? q = some o := fun q hq o e => k8 q o (fun r => hCf.1 (r ▸ hq)) e
    have A57 := (A5.up own).trans A7
    exact hQ .next _ ρ5 W8 ⟨fun b o hb e => k8 b o (get_ne e hC) (A57.keep b o hb e), A57.news, A57.pre⟩ ((F.back F7).keep kf) (V7.go (F.back F7) kf g8 fun _ _ e => e) rfl
end
end Mine
end
section
open PySem PySem.W PySem.Calls PyProof.Rows PySem.Builtin
set_option Elab.async false
set_option linter.unusedVariables false
namespace Mine

theorem Rm.deep {n : Nat} {A : Around} {env : Env} (h : Rm (n + 1) A) : Rm n (A.deeper env) := by
  refine ⟨h.1, ?_, ?_⟩
  · have := h.2.1; show A.depth + 1 + n < 900; omega
  · have := h.2.2; show A.units + 3 + 10 * n < 9000; omega

theorem cellsFrom_has : ∀ (names : List (Str × NameKind)) (n : Nat) (acc : List (Str × Addr)) (x : Str), ((x, NameKind.cell) ∈ names ∨ (acc.lookup x).isSome = true) → ((cellsFrom n names acc).lookup x).isSome = true
  | [], _, acc, x, h => by
    rcases h with h | h
    · cases h
    · exact h
  | (m, k) :: r, n, acc, x, h => by
    unfold cellsFrom
    split
    · refine cellsFrom_has r _ _ x ?_
      rcases h with h | h
      · rcases List.mem_cons.mp h with e | h
        · cases e; right; simp
        · exact .inl h
      · right
        simp only [List.lookup_cons]
        split
        · rfl
        · exact h
    · rename_i hk
      refine cellsFrom_has r _ _ x ?_
      rcases h with h | h
      · rcases List.mem_cons.mp h with e | h
        · cases e; exact absurd rfl hk
        · exact .inl h
      · exact .inr h

theorem bindL_skip (kd : Str → Option NameKind) : ∀ (bs : List (Str × Value)) (m : Str → Option Value) (x : Str), x ∉ bs.map (·.1) → bindL kd bs m x = m x
  | [], m, x, _ => rfl
  | (n, v) :: r, m, x, h => by
    simp only [List.map_cons, List.mem_cons, not_or] at h
    unfold bindL
    rw [bindL_skip kd r _ x h.2]
    split
    · simp [h.1]
    · rfl
theorem bindC_skip (kd : Str → Option NameKind) : ∀ (bs : List (Str × Value)) (m : Str → Option Value) (x : Str), x ∉ bs.map (·.1) → bindC kd bs m x = m x
  | [], m, x, _ => rfl
  | (n, v) :: r, m, x, h => by
    simp only [List.map_cons, List.mem_cons, not_or] at h
    unfold bindC
    rw [bindC_skip kd r _ x h.2]
    split
    · rfl
    · simp [h.1]

/-- the parameters, as the interpreter numbers them -/
theorem setAll_get {P : Addr → Obj → Prop} {ρ : List Addr} (kd : Str → Option NameKind) : ∀ (names : List Str) (is : List Nat) (ds : List D) (vs : List Value) (σ σ' : Vars) (m mc : Str → Option Value), names.Nodup → is.Nodup → is.length = names.length → Lays P ρ vs ds →
    setAll is ds σ = some σ' → vs.length = names.length ∧ (∀ i, i ∉ is → σ'.get i = σ.get i) ∧ ∀ (x : Str) (i : Nat), (x, i) ∈ names.zip is → ∃ v d, σ'.get i = some d ∧ Lay P ρ v d ∧ (kd x = some .local → bindL kd (names.zip vs) m x = some v) ∧ (kd x ≠ some .local → bindC kd (names.zip vs) mc x = some v)
  | [], is, ds, vs, σ, σ', m, mc, _, _, hl, lv, e => by
    cases is with
    | cons => cases hl
    | nil => cases lv with
      | nil => cases e; exact ⟨rfl, fun _ _ => rfl, fun _ _ h => by cases h⟩
      | cons => cases e
  | n :: names, is, ds, vs, σ, σ', m, mc, hn, hi, hl, lv, e => by
    cases is with
    | nil => cases hl
    | cons i is =>
      cases lv with
      | nil => cases e
      | cons l lv =>
        rename_i v vs d ds
        simp only [setAll] at e
        obtain ⟨hn1, hn2⟩ := List.nodup_cons.mp hn
        obtain ⟨hi1, hi2⟩ := List.nodup_cons.mp hi
        obtain ⟨h1, h2, h3⟩ := setAll_get kd names is ds vs (σ.set i d) σ' (if kd n = some .local then fun y => if y = n then some v else m y else m) (if kd n = some .local then mc else fun y => if y = n then some v else mc y) hn2 hi2 (Nat.succ.inj hl) lv e
        have zk : ∀ vs : List Value, n ∉ (names.zip vs).map (·.1) := fun vs hm => by
          obtain ⟨p, hp, e⟩ := List.mem_map.mp hm
          exact hn1 (e ▸ (List.of_mem_zip hp).1)
        refine ⟨by simp [h1], fun j hj => ?_, fun x j hj => ?_⟩
        · simp only [List.mem_cons, not_or] at hj
          rw [h2 j hj.2, Vars.get_set, if_neg (Ne.symm hj.1)]
        · rw [List.zip_cons_cons] at hj
          rcases List.mem_cons.mp hj with e | hj
          · cases e
            refine ⟨v, d, by rw [h2 i hi1, Vars.get_set, if_pos rfl], l, fun hk => ?_, fun hk => ?_⟩
            · rw [List.zip_cons_cons]; unfold bindL
              rw [bindL_skip kd _ _ _ (zk vs), if_pos hk]; simp
            · rw [List.zip_cons_cons]; unfold bindC
              rw [bindC_skip kd _ _ _ (zk vs), if_neg hk]; simp
          · obtain ⟨u, e, q1, q2, q3, q4⟩ := h3 x j hj
            refine ⟨u, e, q1, q2, fun hk => ?_, fun hk => ?_⟩
            · rw [List.zip_cons_cons]; unfold bindL; exact q3 hk
            · rw [List.zip_cons_cons]; unfold bindC; exact q4 hk

/-- a function of the program, as the interpreter takes it -/
structure FnIs (c : Cx) (a : Addr) (fd : FuncData) (body : List Stmt) (names : List Str) (is : List Nat) (sc : List (Str × Nat)) : Prop where
  get : ∃ o, c.K.lookup a = some o ∧ o.data = .func fd
  code : codeIn c.K fd.code fd.qualname = true
  body : fd.body = .stmts body
  bind : ∀ vals : List Value, vals.length = names.length → bindArgs fd ⟨vals, []⟩ = pure (names.zip vals)
  clo : fd.closure = []
  glob : fd.globals = mainGlobals
  blt : fd.builtins = builtinsNs
  co : fd.scope.isCoroutine = false
  gen : fd.scope.isGenerator = false
  kind : fd.scope.kind = .function
  nd : names.Nodup
  ndi : is.Nodup
  len : is.length = names.length
  params : ∀ p ∈ names.zip is, p ∈ sc
  pk : ∀ x ∈ names, fd.scope.names.lookup x = some .local ∨ fd.scope.names.lookup x = some .cell
  kinds : ∀ p ∈ sc, fd.scope.names.lookup p.1 = some .local ∨ fd.scope.names.lookup p.1 = some .cell
  one : ∀ p ∈ sc, ∀ q ∈ sc, p.2 = q.2 → p.1 = q.1
  two : ∀ p ∈ sc, ∀ q ∈ sc, p.1 = q.1 → p.2 = q.2

theorem lookup_mem {x : Str} {k : NameKind} : ∀ {l : List (Str × NameKind)}, l.lookup x = some k → (x, k) ∈ l := fun h => mem_of_lookup h

noncomputable def flV (f : Flow) : Value := match f with | .ret v => v | _ => .none
section
variable {c : Cx} {A : Around} {sc : List (Str × Nat)} {σ σ' σ₁ σ₂ : Vars} {st st₁ st₂ st₃ st' : Store} {x y d : D} {n : Nat} {fm fm' own ρ ρ' : List Addr} {s s' : Shared} {h h' : Heap}

theorem enter {a : Addr} {fd : FuncData} {body : List Stmt} {names : List Str} {is : List Nat} {vs : List Value} {ds : List D} {Q : Value → Shared → Prop} (O : Ok c) (R : Rm (n + 1) A) (H : FnIs c a fd body names is sc) (W : Wf c fm ρ st s)
    (ls : Lays (Out (fm ++ ρ) s.heap) ρ vs ds) (hσ : setAll is ds [] = some σ)
    (hb : ∀ (env : Env) (own : List Addr) (s₁ : Shared), Fm (fun x => fd.scope.names.lookup x) sc env (own ++ fm) s₁.heap → Own env (own ++ fm) own → Wf c (own ++ fm) ρ st s₁ → Vr sc env (own ++ fm) ρ σ s₁.heap →
      (∀ b o, s.heap.get? b = some o → s₁.heap.get? b = some o) → (∀ q ∈ own, s.heap.get? q = none) →
      wpAny (model c.prog c.w) (A.deeper env) (execs body env) (fun f s' => Q (flV f) s') (fun _ _ => False) s₁) :
    wpAny (model c.prog c.w) A (call (.ref a) vs) Q (fun _ _ => False) s := by
  obtain ⟨o, hK, hd⟩ := H.get
  obtain ⟨hlen, hskip, hget⟩ := setAll_get (P := Out (fm ++ ρ) s.heap) (ρ := ρ) (fun x => fd.scope.names.lookup x) names is ds vs [] σ (fun _ => none) (fun _ => none) H.nd H.ndi H.len ls hσ
  refine wpAny_call (codeAny_call_cells (fd := fd) (binds := names.zip vs) (Nat.lt_of_le_of_lt (Nat.le_add_right _ (n + 1)) (Nat.lt_trans R.2.1 (by decide))) (W.K O a o hK) hd (O.lim.keeps W.base) (codeRec_of (W.K O) H.code) H.body (H.bind vs hlen) H.clo (fun p hp => ?_) (fun s₁ X => ?_) H.co H.gen H.kind)
  · rcases H.pk p.1 (List.of_mem_zip hp).1 with q | q
    · exact .inl q
    · exact .inr ⟨q, cellsFrom_has _ _ _ _ (.inl (lookup_mem q))⟩
  · generalize hE : callEnvC fd s.heap.objs.size a = env at X ⊢
    have hkd : env.kindOf = fun x => fd.scope.names.lookup x := by rw [← hE]; rfl
    have hcl : env.cells = cellsFrom (s.heap.objs.size + 1) fd.scope.names [] := by rw [← hE]; rfl
    have hgl : env.globals = mainGlobals := by rw [← hE]; exact H.glob
    have hbl : env.builtins = builtinsNs := by rw [← hE]; exact H.blt
    have hki : env.scope.kind = .function := by rw [← hE]; exact H.kind
    let own : List Addr := env.locals :: env.cells.filterMap fun p => env.cells.lookup p.1
    have ownC : ∀ x cc, env.cells.lookup x = some cc → cc ∈ own := fun x cc e => List.mem_cons_of_mem _ (List.mem_filterMap.mpr ⟨(x, cc), mem_of_lookup e, e⟩)
    have ownI : ∀ q ∈ own, q = env.locals ∨ ∃ x, env.cells.lookup x = some q := fun q hq => by
      rcases List.mem_cons.mp hq with e | hq
      · exact .inl e
      · obtain ⟨p, _, e⟩ := List.mem_filterMap.mp hq
        exact .inr ⟨p.1, e⟩
    have above : ∀ q ∈ own, s.heap.objs.size ≤ q := fun q hq => by
      rcases ownI q hq with rfl | ⟨x, e⟩
      · exact X.toInCall.fresh
      · exact Nat.le_trans X.toInCall.fresh (Nat.le_of_lt (X.above _ _ (mem_of_lookup e)))
    have fresh : ∀ q ∈ own, s.heap.get? q = none := fun q hq => by
      cases e : s.heap.get? q with
      | none => rfl
      | some o' => exact absurd (Heap.lt_size e) (Nat.not_lt.mpr (above q hq))
    have keep := X.toInCall.keep
    have g : Go (fm ++ ρ) (own ++ fm ++ ρ) s.heap s₁.heap := ⟨fun b o' _ e => keep b o' e, fun q hq hn => by
      rcases List.mem_append.mp hq with hq | hq
      · rcases List.mem_append.mp hq with hq | hq
        · exact fresh q hq
        · exact absurd (List.mem_append_left _ hq) hn
      · exact absurd (List.mem_append_right _ hq) hn⟩
    have W1 : Wf c (own ++ fm) ρ st s₁ := by
      refine W.go X.toInCall.same g (fun b _ o' e => keep b o' e) (fun q hq => ?_) (fun q hq hm => ?_)
      · rcases List.mem_append.mp hq with hq | hq
        · rcases ownI q hq with rfl | ⟨x, e⟩
          · exact let ⟨o', _, _, r, _⟩ := X.toInCall.ns; ⟨o', r⟩
          · exact let ⟨o', r, _⟩ := X.cell x q e; ⟨o', r⟩
        · obtain ⟨o', e⟩ := W.alive q (.inl hq); exact ⟨o', keep q o' e⟩
      · rcases List.mem_append.mp hm with hm | hm
        · have := fresh q hm
          obtain ⟨o', e⟩ := W.alive q (.inr hq)
          rw [this] at e; cases e
        · exact W.apart q hq hm
    have F1 : Fm (fun x => fd.scope.names.lookup x) sc env (own ++ fm) s₁.heap := by
      refine ⟨hkd, List.mem_append_left _ (.head _), ⟨_, X.toInCall.ns⟩, hgl, hbl, hki, fun x cc e => ⟨List.mem_append_left _ (ownC x cc e), ⟨_, X.cell x cc e⟩, Nat.ne_of_gt (X.above _ _ (mem_of_lookup e))⟩,
        fun x z cc e1 e2 => name_of_addr X.apart (mem_of_lookup e1) (mem_of_lookup e2), fun p hp => ?_, H.one, H.two⟩
      rcases H.kinds p hp with q | q
      · exact .inl q
      · exact .inr ⟨.inl q, Option.isSome_iff_exists.mp (by rw [hcl]; exact cellsFrom_has _ _ _ _ (.inl (lookup_mem q)))⟩
    refine wpAny_mono (hb env own s₁ F1 ⟨.head _, ownC, fun q hq => List.mem_append_left _ hq⟩ W1 ?_ keep fresh) (fun f s' q => q) fun _ _ q => q.elim
    intro p hp e he
    by_cases hpi : p.2 ∈ is
    · obtain ⟨k, hk, hkk⟩ := List.mem_iff_getElem.mp hpi
      have hk' : k < names.length := by rw [← H.len]; exact hk
      have hz : (names[k], p.2) ∈ names.zip is := by
        rw [← hkk]
        exact List.mem_iff_getElem.mpr ⟨k, by rw [List.length_zip]; exact Nat.lt_min.mpr ⟨hk', hk⟩, by simp⟩
      have hx : names[k] = p.1 := H.one _ (H.params _ hz) p hp rfl
      obtain ⟨v, d', e1, l, q1, q2⟩ := hget _ _ hz
      rw [he] at e1; cases e1
      refine ⟨v, ?_, g.lay (fun _ _ e => e) l⟩
      rw [hx] at q1 q2
      rcases H.kinds p hp with q | q
      · exact .inl ⟨by rw [hkd]; exact q, _, X.toInCall.ns, by rw [hkd]; exact q1 q⟩
      · obtain ⟨cc, hcc⟩ := Option.isSome_iff_exists.mp (show (env.cells.lookup p.1).isSome = true by rw [hcl]; exact cellsFrom_has _ _ _ _ (.inl (lookup_mem q)))
        refine .inr ⟨.inl (by rw [hkd]; exact q), cc, hcc, ?_⟩
        have := X.cell _ _ hcc
        rw [hkd, q2 (by simp [q])] at this
        exact this
    · rw [hskip _ hpi] at he; cases he
theorem Wf.closed (W : Wf c fm ρ st s) : Wf c (fm ++ ρ) [] [] s :=
  ⟨W.same, W.base, fun a ha => W.alive a (by rcases ha with h | h; exact List.mem_append.mp h; cases h), fun a ha => W.new a (by rcases ha with h | h; exact List.mem_append.mp h; cases h), rfl, fun i a mo e _ => by simp at e, List.nodup_nil, fun a ha => by cases ha⟩

noncomputable def flD : Fl → D
  | .ret d => d
  | .next => .none
theorem flAt_lay {P : Addr → Obj → Prop} {f : Flow} {fl : Fl} (h : FlAt P ρ f fl) : Lay P ρ (flV f) (flD fl) := by
  cases fl with
  | next => cases h; exact .none
  | ret d => obtain ⟨v, rfl, l⟩ := h; exact l

theorem call_closed {a : Addr} {fd : FuncData} {body : List Stmt} {names : List Str} {is : List Nat} {ds : List D} {fl : Fl} (O : Ok c) (R : Rm (n + 1) A) (H : FnIs c a fd body names is sc) (hd0 : D.refsLts 0 ds = true) (hσ : setAll is ds [] = some σ)
    (hr : D.refsLt 0 (flD fl) = true) (hb : ∀ A, Rm n A → ExL c A (fun x => fd.scope.names.lookup x) sc body σ [] fl σ' st') : CallE c A (.ref a) ds st (flD fl) st := by
  intro fm ρ s vs W ls Q hQ
  have ls0 : Lays (Out (fm ++ ρ ++ []) s.heap) [] vs ds := by
    have := ls.cut hd0
    rw [List.append_nil]; exact this
  refine enter O R H W.closed ls0 hσ fun env own s₁ F1 O1 W1 V1 keep fresh => ?_
  refine hb _ R.deep env _ own [] s₁ F1 O1 W1 V1 _ fun f s2 ρ2 W2 A2 F2 V2 hf => ?_
  have k2 : ∀ b o, s.heap.get? b = some o → s2.heap.get? b = some o := fun b o e => A2.keep b o (fun q => by
    rcases List.mem_append.mp q with q | q
    · rw [fresh b q] at e; cases e
    · cases q) (keep b o e)
  have K2 : Keeps s s2 := by
    obtain ⟨h1, t1, e1⟩ := W.same
    obtain ⟨h2, t2, e2⟩ := W2.same
    exact ⟨h2, t2, by rw [e2, e1], by rw [e2] at k2; exact k2⟩
  have l2 := flAt_lay hf
  have l3 := l2.cut hr
  refine hQ _ s2 ρ (W.keeps K2) (kp_adv K2 ρ) (l3.mono (fun b o q => ⟨q.1, fun hm => q.2 ?_⟩) fun i b e => by simp at e)
  exact List.mem_append_left _ (List.mem_append_right _ hm)

theorem call_open {a : Addr} {fd : FuncData} {body : List Stmt} {names : List Str} {is : List Nat} {ds : List D} {fl : Fl} (O : Ok c) (R : Rm (n + 1) A) (H : FnIs c a fd body names is sc) (hσ : setAll is ds [] = some σ)
    (hb : ∀ A, Rm n A → ExL c A (fun x => fd.scope.names.lookup x) sc body σ st fl σ' st') : CallE c A (.ref a) ds st (flD fl) st' := by
  intro fm ρ s vs W ls Q hQ
  refine enter O R H W ls hσ fun env own s₁ F1 O1 W1 V1 keep fresh => ?_
  refine hb _ R.deep env _ own ρ s₁ F1 O1 W1 V1 _ fun f s2 ρ2 W2 A2 F2 V2 hf => ?_
  have gw : ∀ q ∈ fm ++ ρ2, q ∈ own ++ fm ++ ρ2 := fun q hq => by
    rcases List.mem_append.mp hq with h | h
    · exact List.mem_append_left _ (List.mem_append_right _ h)
    · exact List.mem_append_right _ h
  refine hQ _ s2 ρ2 (W2.weak fun q hq => List.mem_append_right _ hq) ⟨fun b o hb e => A2.keep b o (fun q => ?_) (keep b o e), fun q hq hn => ?_, A2.down⟩ ((flAt_lay hf).mono (fun b o q => ⟨q.1, fun hm => q.2 (gw b hm)⟩) fun _ _ e => e)
  · rcases List.mem_append.mp q with q | q
    · rw [fresh b q] at e; cases e
    · exact hb q
  · have h1 : s₁.heap.get? q = none := A2.news q (List.mem_append_right _ hq) fun r => by
      rcases List.mem_append.mp r with r | r
      · exact W2.apart q hq (List.mem_append_left _ r)
      · exact hn r
    cases e : s.heap.get? q with
    | none => rfl
    | some o => rw [keep q o e] at h1; cases h1
end
end Mine
end
section
open PySem PySem.W PySem.Calls PyProof.Rows PySem.Builtin
set_option Elab.async false
set_option linter.unusedVariables false
namespace Mine

/-- the targets of a row of names -/
noncomputable def nmE (q : Str × Pos) : Expr := .Name q.1 q.2
noncomputable def TgtOk (kd : Str → Option NameKind) (sc : List (Str × Nat)) : List (Str × Pos) → List Nat → Prop
  | [], [] => True
  | q :: r, i :: is => (q.1, i) ∈ sc ∧ (kd q.1 = some .local ∨ kd q.1 = some .cell) ∧ TgtOk kd sc r is
  | _, _ => False
noncomputable def ntup : Expr → Bool
  | .Tuple .. => false
  | .List .. => false
  | _ => true

section
variable {c : Cx} {A : Around} {kd : Str → Option NameKind} {sc : List (Str × Nat)} {σ σ' σ₁ σ₂ : Vars} {st st₁ st₂ st₃ st' : Store} {x y d : D} {n : Nat} {pos : Pos} {env : Env} {fm fm' own ρ ρ' : List Addr} {s s' : Shared} {h h' : Heap}

theorem tgt_each : ∀ (ts : List (Str × Pos)), assignEach (ts.map nmE) env = ts.map fun q => (false, assign (nmE q) env)
  | [] => rfl
  | q :: r => congrArg (_ :: ·) (tgt_each r)
theorem tgt_len : ∀ {ts : List (Str × Pos)} {is : List Nat}, TgtOk kd sc ts is → ts.length = is.length
  | [], [], _ => rfl
  | q :: r, i :: is, h => congrArg Nat.succ (tgt_len h.2.2)
  | [], _ :: _, h => h.elim
  | _ :: _, [], h => h.elim
theorem assign_all : ∀ (ts : List (Str × Pos)) (is : List Nat) (ds : List D) (vs : List Value) (σ σ' : Vars) (s : Shared) (Q : Unit → Shared → Prop), TgtOk kd sc ts is → setAll is ds σ = some σ' → Fm kd sc env fm s.heap → Own env fm own → Wf c fm ρ st s → Vr sc env fm ρ σ s.heap →
    Lays (Out (fm ++ ρ) s.heap) ρ vs ds → (∀ s', Wf c fm ρ st s' → Adv (own ++ ρ) (own ++ ρ) s s' → Fm kd sc env fm s'.heap → Vr sc env fm ρ σ' s'.heap → Q () s') → wpAny (model c.prog c.w) A (assignInOrder (ts.map fun q => assign (nmE q) env) vs) Q (fun _ _ => False) s := by
  intro ts
  induction ts with
  | nil =>
    intro is ds vs σ σ' s Q h e F O W V ls hQ
    cases is with
    | cons => exact h.elim
    | nil => cases ds with
      | cons => cases e
      | nil => cases e; cases ls; exact assignInOrder_nil (hQ s W (Adv.refl _ _) F V)
  | cons q r ih =>
    intro is ds vs σ σ' s Q h e F O W V ls hQ
    cases is with
    | nil => exact h.elim
    | cons i is => cases ds with
      | nil => cases e
      | cons d ds => cases ls with
        | cons l ls =>
          rw [List.map_cons]
          refine assignInOrder_cons (wpAny_assign_Name (store_ok F O W V h.1 h.2.1 l fun s1 W1 A1 F1 V1 => ?_))
          exact ih is ds _ _ σ' s1 Q h.2.2 e F1 O W1 V1 ((A1.wide O.sub).lays (fun _ _ e => e) ls) fun s2 W2 A2 F2 V2 => hQ s2 W2 (A1.trans A2) F2 V2
theorem ntup_swap {e : Expr} (h : ntup e = true) (h2 : nocomp e = true) (ts : List Expr) (k : Nat) (p : Pos) (l : Nat) (env : Env) : swapsWithSole [.Tuple ts k p] e l env = pure false ∧ swappedStores [.Tuple ts k p] e env = pure none := by
  cases e <;> first | exact ⟨rfl, rfl⟩ | (simp [ntup] at h) | (simp [nocomp] at h2)
theorem x_asgT {ts : List (Str × Pos)} {is : List Nat} {e : Expr} {k : Nat} {p : Pos} {ds : List D} (R : Rm n A) (ht : TgtOk kd sc ts is) (hn : ntup e = true) (h2 : nocomp e = true) (h : EvE c A kd sc e σ st (.tup ds) st₁) (hs : setAll is ds σ = some σ') (hlen : ds.length = is.length) :
    ExS c A kd sc (.Assign [.Tuple (ts.map nmE) k p] e pos) σ st .next σ' st₁ := by
  intro env fm own ρ s F O W V Q hQ
  refine Assign_Tuple (h env fm ρ s F W V _ fun v s1 ρ1 W1 A1 l => ?_) (ntup_swap hn h2 _ k p pos.line env).1 (ntup_swap hn h2 _ k p pos.line env).2
  cases l with | tup ho ls =>
  rename_i a vs nn
  refine assign_Tuple_tuple R.1 ⟨_, ho.1, rfl, _, rfl⟩ (by rw [tgt_each, List.length_map, tgt_len ht, List.size_toArray, ls.length, hlen]) (by rw [tgt_each, List.findIdx?_eq_none_iff]; intro q hq; obtain ⟨q', _, rfl⟩ := List.mem_map.mp hq; rfl) fun h2 e2 => ?_
  have k2 : Keeps s1 { s1 with heap := h2 } := ⟨h2, s1.toks, rfl, fun b o e => e2 b o (get_ne e (size_none _)) e⟩
  have A2 := kp_adv k2 ρ1
  have F1 := F.adv W A1
  have V1 := V.adv F W A1
  rw [tgt_each, List.map_map]
  exact assign_all _ _ _ _ _ _ _ _ ht hs (F1.adv W1 A2) O (W1.keeps k2) (V1.adv F1 W1 A2) (A2.lays ls) fun s3 W3 A3 F3 V3 => hQ .next s3 ρ1 W3 ((A1.up own).trans ((A2.up own).trans A3)) F3 V3 rfl

/-- an object of the store changes -/
theorem Wf.upd (W : Wf c fm ρ st s) {r : Nat} {a : Addr} {mo : MO} (hr : ρ[r]? = some a) (hs : ∃ h tk, s' = { s with heap := h, toks := tk }) (k : ∀ b o, b ≠ a → s.heap.get? b = some o → s'.heap.get? b = some o) (al : ∃ o, s'.heap.get? a = some o)
    (hm : MoAt c (fm ++ ρ) ρ s'.heap a mo) : Wf c fm ρ (st.set r mo) s' ∧ Adv ρ ρ s s' := by
  have ha : a ∈ ρ := List.mem_of_getElem? hr
  have A1 : Adv ρ ρ s s' := ⟨fun b o hb e => k b o (fun q => hb (q ▸ ha)) e, fun _ h n => absurd h n, fun _ _ e => e⟩
  refine ⟨⟨?_, fun b o e => ?_, fun b hb => ?_, W.new, by simp [W.len], fun i b mo' e1 e2 => ?_, W.nodup, W.apart⟩, A1⟩
  · obtain ⟨h, t, e⟩ := W.same
    obtain ⟨h', t', rfl⟩ := hs
    exact ⟨h', t', by rw [e]⟩
  · exact k b o (fun q => by rw [q, W.new a (.inr ha)] at e; cases e) (W.base b o e)
  · by_cases q : b = a
    · exact q ▸ al
    · obtain ⟨o, e⟩ := W.alive b hb; exact ⟨o, k b o q e⟩
  · by_cases hi : i = r
    · subst hi
      rw [hr] at e1; cases e1
      rw [List.getElem?_set_self (by rw [← W.len]; exact (List.getElem?_eq_some_iff.mp hr).1)] at e2
      cases e2; exact hm
    · rw [List.getElem?_set_ne (Ne.symm hi)] at e2
      have hb : b ≠ a := fun q => hi (by
        subst q
        exact (List.getElem?_inj (List.getElem?_eq_some_iff.mp e1).1 W.nodup).mp (e1.trans hr.symm))
      exact (W.store i b mo' e1 e2).mono (fun _ _ q => (A1.go fm).out q) (fun _ _ e => e) fun o e => k b o hb e

theorem x_seti {X : Str} {p p2 : Pos} {i r : Nat} {e ie : Expr} {j : Int} {l : List D} (hx : okName X = true) (hs : (X, i) ∈ sc) (hc : nocomp e = true) (h : EvE c A kd sc e σ st x st₁) (hi : EvE c A kd sc ie σ st₁ (.int j) st₂)
    (hr : σ.get i = some (.ref r)) (hl : st₂[r]? = some (.ml l)) (h0 : 0 ≤ j) (hj : j.natAbs ≤ lid) (hb : j.toNat < l.length) :
    ExS c A kd sc (.Assign [.Subscript (.Name X p) ie p2] e pos) σ st .next σ (st₂.set r (.ml (l.set j.toNat x))) := by
  intro env fm own ρ s F O W V Q hQ
  refine wpAny_Assign_Subscript (h env fm ρ s F W V _ fun v s1 ρ1 W1 A1 lv => ?_) (nocomp_swap hc _ _ _)
  have F1 := F.adv W A1
  have V1 := V.adv F W A1
  refine e_var hx hs hr env fm ρ1 s1 F1 W1 V1 _ fun vo s2 ρ2 W2 A2 lo => ?_
  have F2 := F1.adv W1 A2
  have V2 := V1.adv F1 W1 A2
  refine hi env fm ρ2 s2 F2 W2 V2 _ fun vi s3 ρ3 W3 A3 li => ?_
  cases li with | int _ t =>
  cases A3.lay lo with | ref ha =>
  rename_i a
  obtain ⟨vs, hl3, ls⟩ := W3.store _ _ _ ha hl
  have hsz : j < (vs.toArray.size : Int) := by rw [List.size_toArray, ls.length]; omega
  refine wpAny_setItem_list hl3 h0 (lid63' hj) hsz fun h4 hl4 hs4 => ?_
  have k4 : ∀ b o, b ≠ a → s3.heap.get? b = some o → h4.get? b = some o := hs4.extBut
  have A4 : Adv ρ3 ρ3 s3 { s3 with heap := h4 } := ⟨fun b o hb e => k4 b o (fun q => hb (q ▸ List.mem_of_getElem? ha)) e, fun _ h n => absurd h n, fun _ _ e => e⟩
  have lx := (A3.lay (A2.lay lv))
  obtain ⟨W4, _⟩ := W3.upd (s' := { s3 with heap := h4 }) (mo := .ml (l.set j.toNat x)) ha ⟨_, s3.toks, rfl⟩ k4 (let ⟨o, e, _⟩ := hl4; ⟨o, e⟩) ⟨vs.set j.toNat v, by
    have : vs.toArray.setIfInBounds j.toNat v = (vs.set j.toNat v).toArray := by simp
    rw [← this]; exact hl4, ((A4.lays ls).set (A4.lay lx) j.toNat)⟩
  have AA := A2.trans (A3.trans A4)
  exact hQ .next _ ρ3 W4 ((A1.trans AA).up own) (F.adv W (A1.trans AA)) (V.adv F W (A1.trans AA)) rfl
end
end Mine
end
section
open PySem PySem.W PySem.Calls PyProof.Rows PySem.Builtin
set_option Elab.async false
set_option linter.unusedVariables false
set_option maxRecDepth 100000
namespace Mine

theorem ln_split : splitId "list.__new__" = some ("list", "__new__") := by decide +kernel
theorem ln_kind : builtinKind "list.__new__" = some .builtinFn := by decide +kernel
theorem ln_row : ∃ sig, Manifest.signature? "list.__new__" = some sig ∧ ∀ a, Bind.checkArgs "list.__new__" sig ⟨[a], []⟩ = pure () := by
  refine ⟨⟨.any, "list", "list", .cls, [⟨"args", .varPos, false⟩, ⟨"kwargs", .varKw, false⟩]⟩, by kernel_rfl, fun a => by kernel_rfl⟩

/-- the class, as far as a new object asks -/
structure Kls (M : Model) (h : Heap) (C : Addr) : Prop where
  obj : ∃ oC cd, h.get? C = some oC ∧ oC.data = .cls cd ∧ cd.hasDel = false
  base : Looks M h (Bind.staticBase (.ref C)) (.ref C)
  made : Looks M h (Bind.madeBy (.ref C)) (some "list.__new__")
  sub : Looks M h (isSubtype (.ref C) (.type "list")) true
  self : Looks M h (isSubtype (.ref C) (.ref C)) true
  call : Looks M h (specialOf (.ref C) "__call__") (some (.builtin "type.__call__"))
  typ : Looks M h (isInstance (.ref C) (.type "type")) true
  mro : ∃ l, Looks M h (mroOf (.ref C)) l ∧ l.isEmpty = false

section
variable {prog : Program} {w : World} {A : Around} {C : Addr} {R : Result → Shared → Prop} {h : Heap} {g : Array GenState} {d : Drawn} {t : Nat} {os : OsState}

noncomputable abbrev seqObj (C dx : Addr) : Obj := { cls := .ref C, dict := some dx, data := .seq #[] }
theorem new_list (Y : Kls (model prog w) h C)
    (hq : R (.ok (.ret (.ref (h.objs.size + 1)))) ⟨(h.push emptyDict).push (seqObj C h.objs.size), g, d, t, os⟩) :
    codeAny (model prog w) A (.call (.builtin "list.__new__") ⟨[.ref C], []⟩) R ⟨h, g, d, t, os⟩ := by
  obtain ⟨⟨oC, cd, hC, hcd, hdel⟩, base, made, sub, self, call, typ, mro⟩ := Y
  obtain ⟨sig, hsig, hchk⟩ := ln_row
  refine codeAny_call_builtin_code (plainId_quiet F.plain_list_new _) ?_
  simp only [checkBuiltinCall, ln_kind, ln_split, hsig]
  refine wpAny_bind (ks_wpAny_isType_cls hC hcd ?_)
  rw [if_neg (by decide)]
  refine wpAny_bind (sub.at ?_)
  rw [if_neg (by decide)]
  refine wpAny_bind (base.at (wpAny_bind (made.at ?_)))
  show wpAny _ _ (if (Manifest.canonical "list.__new__" != Manifest.canonical "list.__new__") = true then _ else _) _ _ _
  rw [if_neg (by rw [bne_self_eq_false]; decide), hchk]
  refine wpAny_pure ?_
  refine codeAny_builtin_stack PySem.F.entry_list_new rfl fun p st => ?_
  rw [Around.under_plainId PySem.F.plain_list_new _]
  have hown := owner_list_new
  simp only [hown]
  refine wpAny_bind (ks_wpAny_isType_cls hC hcd ?_)
  rw [if_neg (by decide)]
  refine wpAny_bind (sub.at ?_)
  rw [if_neg (by decide)]
  refine wpAny_bind (wpAny_pure ?_)
  rw [if_neg (show ¬ (!typeHasDict (.ref C)) = true from fun e => Bool.noConfusion e)]
  refine wpAny_bind (wpAny_newObj_type ?_)
  show wpAny _ _ (newObj (.ref C) (.seq #[]) (some h.objs.size) >>= _) _ _ _
  have k1 : ∀ b o, h.get? b = some o → (h.push { cls := .type "dict", dict := none, data := .dict #[] }).get? b = some o := fun b o e => Heap.get?_push_of_some _ e
  refine wpAny_bind ?_
  show wpAny _ _ (newObjAsIs (.ref C) (.seq #[]) (some h.objs.size)) _ _ _
  unfold newObjAsIs classHasDel
  refine wpAny_bind (wpAny_alloc (wpAny_bind (wpAny_bind (wpAny_load (Heap.get?_push_of_some _ (k1 _ _ hC)) ?_))))
  rw [hcd]
  refine wpAny_pure ?_
  rw [hdel]
  refine wpAny_pure (wpAny_pure ?_)
  show R _ _
  rw [Heap.size_push]
  exact hq

theorem make_list {fI : Addr} {n : Nat} (Y : Kls (model prog w) h C) (hi : Looks (model prog w) h (typeLookup (.ref C) "__init__") (some (.ref fI))) (hb : ∀ self, Looks (model prog w) h (bindSpecial (.ref fI) self) (.ref fI, [self]))
    (hq : codeAny (model prog w) (A.under (.builtin "type.__call__" ⟨[.ref C], []⟩)) (.call (.ref fI) ⟨[.ref (h.objs.size + 1)], []⟩) (InitBack (h.objs.size + 1) R) ⟨(h.push emptyDict).push (seqObj C h.objs.size), g, d, t, os⟩) :
    codeAny (model prog w) A (.call (.ref C) ⟨[], []⟩) R ⟨h, g, d, t, os⟩ := by
  have Y' := Y
  obtain ⟨⟨oC, cd, hC, hcd, hdel⟩, base, made, sub, self, call, typ, l, hm, hl⟩ := Y
  refine codeAny_of_tree ?_
  show wpAny _ _ (callAny (.ref C) _) _ _ _
  refine nd_load hC ?_
  show wpAny _ _ (match oC.data with | .func fd => callFunction C fd ⟨[], []⟩ | .fields vs => _ | _ => callAny.viaDunder (.ref C) ⟨[], []⟩) _ _ _
  rw [hcd]
  show wpAny _ _ (callAny.viaDunder (.ref C) _) _ _ _
  unfold callAny.viaDunder
  refine wpAny_bind (call.at ?_)
  dsimp only
  rw [tc_bind]
  refine wpAny_bind (wpAny_pure (wpAny_bind (wpAny_pure ?_)))
  refine wpAny_pure (a := Fin.again (.call (.builtin "type.__call__") ⟨[.ref C], []⟩)) (And.intro rfl ?_)
  refine codeAny_call_builtin_at (Code.quiet_builtin _ (by decide +kernel)) entry_typeCall (check_slot tc_kind tc_split typ (tc_args _ _ _) ?_)
  unfold Builtin.«type.__call__»
  repeat (first | simp only [hl, Bool.false_eq_true, if_false] | with_reducible refine wpAny_call ?_ | lk)
  refine new_list Y' ?_
  have k : ∀ b o, h.get? b = some o → ((h.push emptyDict).push (seqObj C h.objs.size)).get? b = some o := fun b o e => Heap.get?_push_of_some _ (Heap.get?_push_of_some _ e)
  have hx : ((h.push emptyDict).push (seqObj C h.objs.size)).get? (h.objs.size + 1) = some (seqObj C h.objs.size) := by heap_get
  have t1 : Looks (model prog w) ((h.push emptyDict).push (seqObj C h.objs.size)) (typeOf (.ref (h.objs.size + 1))) (.ref C) := (Looks.ld hx).andThen .now
  have s1 := self.keeps k
  have i1 := hi.keeps k
  have b1 := (hb (.ref (h.objs.size + 1))).keeps k
  unfold isInstance callSpecial? specialOf
  repeat (first | with_reducible refine wpAny_call ?_ | lk)
  refine codeAny_mono hq fun r s' z => ?_
  rcases r with e | (v | _ | _ | _) <;> first | exact z | exact z.elim | skip
  obtain ⟨rfl, z⟩ := z
  exact wpAny_pure (wpAny_pure z)
end
end Mine
end
section
open PySem PySem.W PySem.Calls PyProof.Rows PySem.Builtin
set_option Elab.async false
set_option linter.unusedVariables false
set_option maxRecDepth 100000
namespace Mine

theorem slot_mdget : Slot "method_descriptor" "__get__" "method_descriptor.__get__" := .of (owner := "method_descriptor") (n := "__get__") (by rw [typeLookup_type, builtinLookup_eq_fast]; kernel_rfl) (by decide +kernel) (by decide +kernel) (by decide +kernel)
  (by first | exact .inl (by decide +kernel) | exact .inr (by decide +kernel)) (by rw [isSubtype_type]; kernel_rfl)
theorem entry_mdget : entryFor table "method_descriptor.__get__" = some Builtin.«method_descriptor.__get__» := entryFor_of_tree (by kernel_rfl)
theorem args_mdget (a b c : Value) : argsOk "method_descriptor.__get__" ⟨[a, b, c], []⟩ := by unfold argsOk; kernel_rfl
theorem slot_wdget : Slot "wrapper_descriptor" "__get__" "wrapper_descriptor.__get__" := .of (owner := "wrapper_descriptor") (n := "__get__") (by rw [typeLookup_type, builtinLookup_eq_fast]; kernel_rfl) (by decide +kernel) (by decide +kernel) (by decide +kernel)
  (by first | exact .inl (by decide +kernel) | exact .inr (by decide +kernel)) (by rw [isSubtype_type]; kernel_rfl)
theorem entry_wdget : entryFor table "wrapper_descriptor.__get__" = some Builtin.«wrapper_descriptor.__get__» := entryFor_of_tree (by kernel_rfl)
theorem args_wdget (a b c : Value) : argsOk "wrapper_descriptor.__get__" ⟨[a, b, c], []⟩ := by unfold argsOk; kernel_rfl
theorem type_pop : typeOf (.builtin "list.pop") = pure (.type "method_descriptor") := by show builtinType _ = _; rw [builtinType_eq_fast]; kernel_rfl
theorem type_len : typeOf (.builtin "list.__len__") = pure (.type "wrapper_descriptor") := by show builtinType _ = _; rw [builtinType_eq_fast]; kernel_rfl
theorem type_linit : typeOf (.builtin "list.__init__") = pure (.type "wrapper_descriptor") := by show builtinType _ = _; rw [builtinType_eq_fast]; kernel_rfl

noncomputable abbrev boundObj (T id : String) (x : Addr) : Obj := { cls := .type T, data := .fields #[.builtin id, .ref x] }
section
variable {prog : Program} {w : World} {A : Around} {E : Value → Shared → Prop} {C x : Addr} {h : Heap} {g : Array GenState} {d : Drawn} {t : Nat} {os : OsState}

theorem md_pop {Q : Value → Shared → Prop} {s : Shared} (ht : Looks (model prog w) s.heap (isInstance (.ref x) (.type "list")) true)
    (hq : Q (.ref s.heap.objs.size) { s with heap := s.heap.push (boundObj "builtin_function_or_method" "list.pop" x) }) :
    wpAny (model prog w) A (call (.builtin "method_descriptor.__get__") [.builtin "list.pop", .ref x, .ref C]) Q E s := by
  refine wpAny_call_entry slot_mdget (show s.TypeIs (.builtin "list.pop") "method_descriptor" from type_pop) entry_mdget ?_ (args_mdget _ _ _)
  have hc : (Manifest.toldItsClass.contains "list.pop") = false := by decide +kernel
  unfold Builtin.«method_descriptor.__get__»
  obtain ⟨h, g, d, t, os⟩ := s
  refine wpAny_bind (wpAny_bind (wpAny_pure ?_))
  refine wpAny_pure (a := (Value.builtin "list.pop", some (Value.ref x), some (Value.ref C))) ?_
  dsimp only
  rw [hc]
  rw [if_neg (by decide)]
  refine wpAny_bind ?_
  show wpAny _ _ (isInstance (.ref x) (.type "list") >>= _) _ _ _
  refine wpAny_bind (ht.at ?_)
  refine wpAny_pure ?_
  refine wpAny_bind (wpAny_newObj_type ?_)
  exact wpAny_pure ⟨_, rfl, hq⟩
theorem wd_get {Q : Value → Shared → Prop} {s : Shared} {id : String} (hid : id = "list.__len__" ∨ id = "list.__init__") (ht : Looks (model prog w) s.heap (isInstance (.ref x) (.type "list")) true)
    (hq : Q (.ref s.heap.objs.size) { s with heap := s.heap.push (boundObj "method-wrapper" id x) }) :
    wpAny (model prog w) A (call (.builtin "wrapper_descriptor.__get__") [.builtin id, .ref x, .ref C]) Q E s := by
  obtain ⟨h, g, d, t, os⟩ := s
  rcases hid with rfl | rfl
  · refine wpAny_call_entry slot_wdget (show Shared.TypeIs _ (.builtin "list.__len__") "wrapper_descriptor" from type_len) entry_wdget ?_ (args_wdget _ _ _)
    unfold Builtin.«wrapper_descriptor.__get__»
    refine wpAny_bind (wpAny_bind (wpAny_pure ?_))
    refine wpAny_pure (a := (Value.builtin "list.__len__", some (Value.ref x), some (Value.ref C))) ?_
    refine wpAny_bind ?_
    show wpAny _ _ (isInstance (.ref x) (.type "list") >>= _) _ _ _
    refine wpAny_bind (ht.at ?_)
    refine wpAny_pure ?_
    refine wpAny_bind (wpAny_newObj_type ?_)
    exact wpAny_pure ⟨_, rfl, hq⟩
  · refine wpAny_call_entry slot_wdget (show Shared.TypeIs _ (.builtin "list.__init__") "wrapper_descriptor" from type_linit) entry_wdget ?_ (args_wdget _ _ _)
    unfold Builtin.«wrapper_descriptor.__get__»
    refine wpAny_bind (wpAny_bind (wpAny_pure ?_))
    refine wpAny_pure (a := (Value.builtin "list.__init__", some (Value.ref x), some (Value.ref C))) ?_
    refine wpAny_bind ?_
    show wpAny _ _ (isInstance (.ref x) (.type "list") >>= _) _ _ _
    refine wpAny_bind (ht.at ?_)
    refine wpAny_pure ?_
    refine wpAny_bind (wpAny_newObj_type ?_)
    exact wpAny_pure ⟨_, rfl, hq⟩
end
end Mine
end
section
open PySem PySem.W PySem.Calls PyProof.Rows PySem.Builtin
set_option Elab.async false
set_option linter.unusedVariables false
set_option maxRecDepth 100000
namespace Mine
open PySem.F

/-- the built-in attribute of a list, and how it is bound -/
inductive LAttr : Str → String → String → Prop
  | pop : LAttr "pop" "list.pop" "builtin_function_or_method"
  | len : LAttr "__len__" "list.__len__" "method-wrapper"
  | init : LAttr "__init__" "list.__init__" "method-wrapper"
theorem gets_md : typeLookup (.type "method_descriptor") "__get__" = pure (some (.builtin "method_descriptor.__get__")) := slot_mdget.lookup
theorem gets_wd : typeLookup (.type "wrapper_descriptor") "__get__" = pure (some (.builtin "wrapper_descriptor.__get__")) := slot_wdget.lookup

section
variable {prog : Program} {w : World} {A : Around} {E : Value → Shared → Prop} {C x so : Addr} {h : Heap} {g : Array GenState} {d : Drawn} {t : Nat} {os : OsState}
theorem get_attr {name : Str} {id T : String} {Q : Value → Shared → Prop} {s : Shared} (H : LAttr name id T) (ht : Looks (model prog w) s.heap (isInstance (.ref x) (.type "list")) true)
    (hq : Q (.ref s.heap.objs.size) { s with heap := s.heap.push (boundObj T id x) }) :
    wpAny (model prog w) A (typeOf (.builtin id) >>= fun t => typeLookup t "__get__" >>= fun q => match q with | some g => (holding [.builtin id] (call g [.builtin id, .ref x, .ref C]) >>= fun v => pure v) | none => pure .none) Q E s := by
  cases H
  · rw [type_pop]; refine wpAny_bind (wpAny_pure ?_); rw [gets_md]; refine wpAny_bind (wpAny_pure (wpAny_bind (wpAny_holding (md_pop ht (wpAny_pure hq)))))
  · rw [type_len]; refine wpAny_bind (wpAny_pure ?_); rw [gets_wd]; refine wpAny_bind (wpAny_pure (wpAny_bind (wpAny_holding (wd_get (.inl rfl) ht (wpAny_pure hq)))))
  · rw [type_linit]; refine wpAny_bind (wpAny_pure ?_); rw [gets_wd]; refine wpAny_bind (wpAny_pure (wpAny_bind (wpAny_holding (wd_get (.inr rfl) ht (wpAny_pure hq)))))

theorem super_ga {K : Frag} {name : Str} {id T : String} {tk : Tok} {Q : Fin → Shared → Prop} (H : LAttr name id T)
    (hso : h.get? so = some { cls := .type "super", dict := none, data := .fields #[.ref C, .ref x, .ref C], slots := #[] }) (hno : Looks (model prog w) h (opaqueClassAbove (.ref C)) none)
    (hC : Looks (model prog w) h (mroOf (.ref C)) [.ref C, .type "list", .type "object"]) (X : K.In h)
    (hf : alongIn K name [.type "list", .type "object"] = some (some (.builtin id))) (hxC : x ≠ C) (hn : (name == ("__class__" : Str)) = false)
    (ht : Looks (model prog w) h (isInstance (.ref x) (.type "list")) true)
    (hq : Q (.done (.ret (.ref h.objs.size))) ⟨h.push (boundObj T id x), g, d, t, os⟩) :
    wpAny (model prog w) A (Builtin.«super.__getattribute__» ⟨[.ref so, .str name tk], []⟩) Q E ⟨h, g, d, t, os⟩ := by
  have hne : (Value.ref x == Value.ref C) = false := by simp [hxC]
  have hdt : ({ cls := .type "super", dict := none, data := .fields #[.ref C, .ref x, .ref C], slots := #[] } : Obj).data = .fields #[.ref C, .ref x, .ref C] := rfl
  have f0 : (#[.ref C, .ref x, .ref C] : Array Value)[0]? = some (.ref C) := rfl
  have f1 : (#[.ref C, .ref x, .ref C] : Array Value)[1]? = some (.ref x) := rfl
  have f2 : (#[.ref C, .ref x, .ref C] : Array Value)[2]? = some (.ref C) := rfl
  have hl : (([.ref C, .type "list", .type "object"] : List Value).dropWhile (· != .ref C)).drop 1 = [.type "list", .type "object"] := by simp [List.dropWhile]
  unfold Builtin.«super.__getattribute__»
  repeat (first
    | (with_reducible refine wpAny_field hso hdt f0 ?_) | (with_reducible refine wpAny_field hso hdt f1 ?_) | (with_reducible refine wpAny_field hso hdt f2 ?_)
    | (with_reducible refine ks_wpAny_notOpaque hno ?_)
    | (with_reducible refine Looks.at hC ?_; rw [hl])
    | (refine ks_forIn_along X (fun _ _ => rfl) rfl ?_ hf)
    | (simp only [hn, hne, Bool.or_false, Bool.false_eq_true, if_false])
    | wp_step
    | dsimp only)
  cases H
  · show wpAny _ _ (typeOf (.builtin "list.pop")) _ _ _
    rw [type_pop]
    refine wpAny_pure (wpAny_bind ?_)
    rw [gets_md]
    refine wpAny_pure (wpAny_bind (wpAny_holding (md_pop (s := ⟨h, g, d, t, os⟩) ht ?_)))
    exact wpAny_bind (wpAny_pure (wpAny_pure (wpAny_pure hq)))
  · show wpAny _ _ (typeOf (.builtin "list.__len__")) _ _ _
    rw [type_len]
    refine wpAny_pure (wpAny_bind ?_)
    rw [gets_wd]
    refine wpAny_pure (wpAny_bind (wpAny_holding (wd_get (s := ⟨h, g, d, t, os⟩) (.inl rfl) ht ?_)))
    exact wpAny_bind (wpAny_pure (wpAny_pure (wpAny_pure hq)))
  · show wpAny _ _ (typeOf (.builtin "list.__init__")) _ _ _
    rw [type_linit]
    refine wpAny_pure (wpAny_bind ?_)
    rw [gets_wd]
    refine wpAny_pure (wpAny_bind (wpAny_holding (wd_get (s := ⟨h, g, d, t, os⟩) (.inr rfl) ht ?_)))
    exact wpAny_bind (wpAny_pure (wpAny_pure (wpAny_pure hq)))

theorem super_method {K : Frag} {name : Str} {id T : String} {pl : Sem Bool} {Q : Value × List Value → Shared → Prop} (H : LAttr name id T)
    (hso : h.get? so = some { cls := .type "super", dict := none, data := .fields #[.ref C, .ref x, .ref C], slots := #[] }) (hno : Looks (model prog w) h (opaqueClassAbove (.ref C)) none)
    (hC : Looks (model prog w) h (mroOf (.ref C)) [.ref C, .type "list", .type "object"]) (X : K.In h)
    (hf : alongIn K name [.type "list", .type "object"] = some (some (.builtin id))) (hxC : x ≠ C) (hn : (name == ("__class__" : Str)) = false)
    (ht : Looks (model prog w) h (isInstance (.ref x) (.type "list")) true)
    (hq : Q (.ref h.objs.size, []) ⟨h.push (boundObj T id x), g, d, t + 1, os⟩) :
    wpAny (model prog w) A (getMethod (.ref so) name pl) Q E ⟨h, g, d, t, os⟩ := by
  have hlk := ks_slot_super_ga.lookup
  have hcan := ks_canon_super_ga
  have hT : ∀ t', (⟨h, g, d, t', os⟩ : Shared).TypeIs (.ref so) "super" := fun _ => ⟨_, hso, rfl⟩
  unfold getMethod
  refine wpAny_bind (wpAny_specialOf (hT _) hlk ?_)
  show wpAny _ _ (if (Manifest.canonical "super.__getattribute__" != "object.__getattribute__") = true then _ else _) _ _ _
  rw [if_pos hcan]
  unfold getAttr getAttrBy
  refine wpAny_bind (wpAny_bind (wpAny_mkText (wpAny_holding (wpAny_bind (wpAny_typeOf (hT _) (wpAny_bind (wpAny_of_eq hlk ?_)))))))
  show wpAny _ _ (getAttrByItsOwn (.ref so) (.str name t) (.type "super") (.builtin "super.__getattribute__") true false) _ _ _
  unfold getAttrByItsOwn hookBefore callGetattribute boundAndCalled
  refine wpAny_bind (wpAny_of_eq (show (if onTheHeap (.type "super") then typeLookup (.type "super") "__getattr__" else pure none) = pure none from rfl) ?_)
  refine wpAny_bind (wpAny_attempt (wpAny_holding ?_))
  show wpAny _ _ (bindSpecial (.builtin "super.__getattribute__") (.ref so) >>= _) _ _ _
  refine wpAny_bind (wpAny_of_eq (ks_slot_super_ga.bind _) ?_)
  refine wpAny_mono (Q := fun v s' => v = .ref h.objs.size ∧ s' = ⟨h.push (boundObj T id x), g, d, t + 1, os⟩) (E := fun _ _ => False)
    (wpAny_call_entry ks_slot_super_ga (hT _) ks_entry_super_ga (super_ga H hso hno hC X hf hxC hn ht ⟨_, rfl, rfl, rfl⟩) (ks_gaArgs_super _ _)) (fun v s' hv => ?_) fun _ _ z => z.elim
  obtain ⟨rfl, rfl⟩ := hv
  exact wpAny_pure (wpAny_pure hq)
end
end Mine
end
section
open PySem PySem.W PySem.Calls PyProof.Rows PySem.Builtin
set_option Elab.async false
set_option linter.unusedVariables false
set_option maxRecDepth 100000
namespace Mine
open PySem.F

theorem entry_pop : entryFor table "list.pop" = some Builtin.«list.pop» := entryFor_of_tree (by kernel_rfl)
theorem entry_len : entryFor table "list.__len__" = some Builtin.«list.__len__» := entryFor_of_tree (by kernel_rfl)
theorem entry_linit : entryFor table "list.__init__" = some Builtin.«list.__init__» := entryFor_of_tree (by kernel_rfl)
theorem bc_len (a : Value) : checkBoundCall "list.__len__" ⟨[a], []⟩ = pure () := by kernel_rfl
theorem bc_init (a : Value) : checkBoundCall "list.__init__" ⟨[a], []⟩ = pure () := by kernel_rfl

section
variable {prog : Program} {w : World} {A : Around} {E : Value → Shared → Prop} {C x q : Addr} {s : Shared} {pos : Pos}

theorem bound_keeper {T id : String} {h : Heap} (hT : T = "builtin_function_or_method" ∨ T = "method-wrapper") (hq : h.get? q = some (boundObj T id x)) : ∃ k, (k = Keeper.frame ∨ k = Keeper.machine ∨ k = Keeper.boundFrame) ∧ Looks (model prog w) h (keeperOf (.ref q)) k := by
  refine ⟨.machine, .inr (.inl rfl), (Looks.ld (part := none) hq).andThen ?_⟩
  rcases hT with rfl | rfl <;> exact Looks.of_pure (by kernel_rfl)
theorem bound_call {T id : String} {B : Builtin} {Q : Value → Shared → Prop} (hT : T = "builtin_function_or_method" ∨ T = "method-wrapper") (hb : entryFor table id = some B) (hpl : plainId id = true) (hq : s.heap.get? q = some (boundObj T id x))
    (hc : wpAny (model prog w) A.in1 (checkBoundCall id ⟨[.ref x], []⟩) (fun _ s' => s' = s) E s)
    (h : wpAny (model prog w) A.in1 (B ⟨[.ref x], []⟩) (fun fin s' => ∃ v, fin = .done (.ret v) ∧ Q v s') E s) :
    wpAny (model prog w) A (callWith pos (.ref q) [] [] []) Q E s := by
  refine callWith_of (P := fun h => h.get? q = some (boundObj T id x)) rfl (fun h hq => bound_keeper hT hq) (PyProof.Rows.evalArgs_none ⟨hq, ?_⟩)
  refine wpAny_call (codeAny_of_tree ?_)
  show wpAny _ A.in1 (callAny (.ref q) ⟨[], []⟩) _ _ _
  refine wpAny_bind (wpAny_load hq ?_)
  have e : ∀ T, T = "builtin_function_or_method" ∨ T = "method-wrapper" → ((Value.type T == .type "method" || Value.type T == .type "builtin_function_or_method" || Value.type T == .type "method-wrapper") = true ∧ (Value.type T != .type "method") = true) := by
    intro T hT; rcases hT with rfl | rfl <;> exact ⟨by decide, by decide⟩
  obtain ⟨e1, e2⟩ := e T hT
  show wpAny _ _ (if (Value.type T == .type "method" || Value.type T == .type "builtin_function_or_method" || Value.type T == .type "method-wrapper") = true then _ else _) _ _ _
  rw [if_pos e1]
  show wpAny _ _ (if (Value.type T != .type "method") = true then _ else _) _ _ _
  rw [if_pos e2]
  refine wpAny_bind (wpAny_mono hc (fun _ s' e => ?_) fun _ _ e => e)
  subst e
  refine wpAny_pure ⟨plainId_quiet hpl _, codeAny_builtin hb ?_⟩
  rw [Around.under_plainId hpl _]
  refine wpAny_mono h (fun fin s' q => ?_) fun _ _ q => q
  obtain ⟨v, rfl, q⟩ := q
  exact q

theorem len_body {o : Obj} {its : Array Value} {n : Nat} {Q : Value → Shared → Prop} (ho : s.heap.get? x = some o) (hd : o.data = .seq its n) (hq : ∀ t k, Q (.int its.size t) { s with toks := k }) :
    wpAny (model prog w) A (Builtin.«list.__len__» ⟨[.ref x], []⟩) (fun fin s' => ∃ v, fin = .done (.ret v) ∧ Q v s') E s := by
  show wpAny _ _ (seqSize x >>= _) _ _ _
  unfold seqSize
  refine wpAny_bind (wpAny_bind (wpAny_loadPart ho ?_))
  rw [hd]
  refine wpAny_pure ?_
  exact fun _ _ _ => ⟨_, rfl, hq _ _⟩
theorem init_body {o : Obj} {n : Nat} {Q : Value → Shared → Prop} (ho : s.heap.get? x = some o) (hd : o.data = .seq #[] n) (hq : ∀ h', Heap.SameBut x s.heap h' → h'.get? x = some (o.mapSeq fun _ => #[]) → Q .none { s with heap := h' }) :
    wpAny (model prog w) A (Builtin.«list.__init__» ⟨[.ref x], []⟩) (fun fin s' => ∃ v, fin = .done (.ret v) ∧ Q v s') E s := by
  show wpAny _ _ (List.listItems (.ref x) >>= _) _ _ _
  unfold List.listItems
  refine wpAny_bind (wpAny_bind (wpAny_seqItems ho hd (wpAny_pure ?_)))
  show wpAny _ _ (updateSeq x (fun _ => #[]) >>= _) _ _ _
  refine wpAny_bind (wpAny_updateSeq ho hd ?_ (by simp [sizeLine]) (by simp [sizeLine]))
  refine wpAny_bind (wpAny_pure ?_)
  refine wpAny_pure ⟨_, rfl, hq _ (Heap.SameBut.update ..) ?_⟩
  have : (o.mapSeq fun _ => #[]).isFreed = false := by
    obtain ⟨n', e⟩ := Obj.data_mapSeq hd (fun _ => #[])
    exact Obj.isFreed_of_seq e
  exact Heap.get?_update_self _ ho this
theorem pop_body {o : Obj} {its : Array Value} {n : Nat} {v : Value} {Q : Value → Shared → Prop} (ho : s.heap.get? x = some o) (hd : o.data = .seq its n) (hv : its[its.size - 1]? = some v) (hsz : its.size ≤ 10000000)
    (hq : ∀ h', Heap.SameBut x s.heap h' → h'.get? x = some (o.mapSeq (·.eraseIdxIfInBounds (its.size - 1))) → Q v { s with heap := h' }) :
    wpAny (model prog w) A (Builtin.«list.pop» ⟨[.ref x], []⟩) (fun fin s' => ∃ v, fin = .done (.ret v) ∧ Q v s') E s := by
  have h0 : 0 < its.size := by
    have := (Array.getElem?_eq_some_iff.mp hv).1; omega
  show wpAny _ _ (List.listItems (.ref x) >>= _) _ _ _
  unfold List.listItems
  refine wpAny_bind (wpAny_bind (wpAny_seqItems ho hd (wpAny_pure ?_)))
  have hne : ¬ its.isEmpty = true := fun e => by rw [Array.isEmpty_iff_size_eq_zero] at e; omega
  rw [if_neg hne]
  have hi : seqIndex? (-1) its.size = some (its.size - 1) := by
    unfold seqIndex?
    have e1 : (if (-1 : Int) < 0 then -1 + (its.size : Int) else -1) = -1 + (its.size : Int) := if_pos (by decide)
    simp only [e1]
    rw [if_pos (by rw [Bool.and_eq_true, decide_eq_true_eq, decide_eq_true_eq]; omega)]
    congr 1
    omega
  rw [hi]
  show wpAny _ _ (match (its[its.size - 1]?).map (its.size - 1, ·) with | some (k, y) => _ | none => _) _ _ _
  rw [hv]
  show wpAny _ _ (updateSeq x (·.eraseIdxIfInBounds (its.size - 1)) >>= _) _ _ _
  refine wpAny_bind (wpAny_updateSeq ho hd ?_ (Nat.le_trans hsz (by decide)) ?_)
  · refine wpAny_pure ⟨_, rfl, hq _ (Heap.SameBut.update ..) ?_⟩
    have : (o.mapSeq (·.eraseIdxIfInBounds (its.size - 1))).isFreed = false := by
      obtain ⟨n', e⟩ := Obj.data_mapSeq hd (·.eraseIdxIfInBounds (its.size - 1))
      exact Obj.isFreed_of_seq e
    exact Heap.get?_update_self _ ho this
  · have h1 : (10000000 : Nat) ≤ sizeLine := by decide
    have h2 : (its.eraseIdxIfInBounds (its.size - 1)).size ≤ its.size := by
      unfold Array.eraseIdxIfInBounds
      split
      · rw [Array.size_eraseIdx]; omega
      · omega
    omega
end
end Mine
end
section
open PySem PySem.W PySem.Calls PyProof.Rows PySem.Builtin
set_option Elab.async false
set_option linter.unusedVariables false
set_option maxRecDepth 100000
namespace Mine
open PySem.F

/-- the class, in the fragment -/
structure ClsK (K : Frag) (C : Addr) : Prop where
  cls : ∃ oc od cd sl, K.lookup C = some ⟨oc, od, .cls cd, sl⟩ ∧ cd.mro = [.ref C, .type "list", .type "object"] ∧ cd.hasDel = false ∧ cd.hasDict = true ∧ oc = .type "type" ∧ (sl.toList[4]?).join = some (.builtin "list.__new__")
  call : specialIn K (.ref C) "__call__" = some (some (.builtin "type.__call__"))
  typ : instIn K (.ref C) (.type "type") = some true
  ga : findIn K (.ref C) "__getattribute__" = some (some (.builtin "list.__getattribute__"))
  gattr : findIn K (.ref C) "__getattr__" = some none
  opq : nsIn K cStatics "thirdparty.any" = some none

section
variable {prog : Program} {w : World} {M : Model} {A : Around} {E : Value → Shared → Prop} {C x q : Addr} {s : Shared} {h : Heap} {pos : Pos} {K : Frag} {ox : Obj} {od : Option Obj}

theorem ClsK.mro (k : ClsK K C) (X : K.In h) : Looks M h (mroOf (.ref C)) [.ref C, .type "list", .type "object"] := by
  obtain ⟨oc, od, cd, sl, e, m, _⟩ := k.cls
  have hc : clsIn K C = some cd := by unfold clsIn; rw [e]
  rw [← m]; exact (looks_clsIn X hc).andThen .now
theorem ClsK.sub (k : ClsK K C) (X : K.In h) (b : Value) (r : Bool) (hr : ([.ref C, .type "list", .type "object"] : List Value).contains b = r) : Looks M h (isSubtype (.ref C) b) r := by
  obtain ⟨oc, od, cd, sl, e, m, _⟩ := k.cls
  refine looks_mroIn X ?_
  have hc : clsIn K C = some cd := by unfold clsIn; rw [e]
  unfold mroIn
  rw [hc, Option.bind_some, m, if_neg (by simp), hr]
theorem ClsK.obj (k : ClsK K C) (X : K.In h) : ∃ oC cd, h.get? C = some oC ∧ oC.data = .cls cd ∧ cd.hasDel = false := by
  obtain ⟨oc, od, cd, sl, e, m, d, _⟩ := k.cls
  exact ⟨_, cd, X _ _ e, rfl, d⟩
theorem ClsK.made (k : ClsK K C) (X : K.In h) : Looks M h (Bind.madeBy (.ref C)) (some "list.__new__") := by
  obtain ⟨oc, od, cd, sl, e, m, d, hd, _, e3⟩ := k.cls
  intro A Q E s k' q
  unfold Bind.madeBy
  refine wpAny_bind (k.mro X A _ E s k' ?_)
  rw [List.forIn_cons]
  refine wpAny_bind (wpAny_bind (wpAny_bind (wpAny_bind (wpAny_loadPart (k' _ _ (X _ _ e)) (wpAny_pure ?_)))))
  dsimp only
  rw [← Array.getElem?_toList, e3]
  exact wpAny_pure (wpAny_pure (wpAny_pure q))
theorem ClsK.kls (k : ClsK K C) (X : K.In h) : Kls M h C := by
  refine ⟨k.obj X, ?_, k.made X, k.sub X _ true (by simp), k.sub X _ true (by simp), looks_specialIn X k.call, looks_instIn X k.typ, _, k.mro X, rfl⟩
  intro A Q E s k' q
  unfold Bind.staticBase
  refine wpAny_bind (k.mro X A _ E s k' ?_)
  rw [List.forIn_cons]
  exact wpAny_bind (wpAny_bind (wpAny_bind (k.made X A _ E s k' (wpAny_pure (wpAny_pure (wpAny_pure q))))))

theorem isList_inst (k : ClsK K C) (X : K.In h) (I : InstAt h x ox C od) : Looks M h (isInstance (.ref x) (.type "list")) true :=
  I.type.andThen (k.sub X _ true (by simp))

/-- a method of the class, found through the object -/
theorem method_any {a t : Value} {name : Str} {pl : Sem Bool} {Q : Value × List Value → Shared → Prop} (k : ClsK K C) (X : K.In s.heap) (I : InstAt s.heap x ox C od)
    (hf : findIn K (.ref C) name = some (some a)) (ht : typeIn K a = some t) (hk : t = .type "function" ∨ t = .type "method_descriptor") (hs : shadowIn od name = some false) (h : Q (a, [.ref x]) s) :
    wpAny (model prog w) A (getMethod (.ref x) name pl) Q E s := by
  have hcan : (Manifest.canonical "list.__getattribute__" != "object.__getattribute__") = false := by decide +kernel
  unfold getMethod specialOf
  refine wpAny_bind (wpAny_bind (I.type.here ((looks_findIn X k.ga).here ?_)))
  dsimp only
  rw [hcan, if_neg (by decide)]
  refine wpAny_bind (wpAny_bind (I.type.here ((looks_findIn X k.gattr).here ?_)))
  refine wpAny_bind (wpAny_bind (I.type.here ((looks_findIn X hf).here (wpAny_bind ((looks_typeIn X ht).here ?_)))))
  rw [if_neg (by rcases hk with rfl | rfl <;> decide +kernel)]
  refine wpAny_bind (wpAny_loadPart I.at_ ?_)
  have hd := I.dict
  cases e : ox.dict with
  | none => exact wpAny_bind (wpAny_rule (wpAny_pure h))
  | some dx =>
    cases od with
    | none => rw [e] at hd; exact hd.elim
    | some o =>
      rw [e] at hd
      obtain ⟨r, a, b⟩ := Option.map_eq_some_iff.mp hs
      refine wpAny_bind (wpAny_bind (wpAny_loadPart hd ?_))
      rw [nsLook_of a]
      refine wpAny_pure ?_
      rw [b]
      exact wpAny_bind (wpAny_rule (wpAny_pure h))
end

/-- a function of the class that asks super -/
structure SupFn (prog : Program) (K : Frag) (C f : Addr) (fd : FuncData) (body : List Stmt) : Prop where
  get : ∃ o, K.lookup f = some o ∧ o.data = .func fd
  code : codeIn K fd.code fd.qualname = true
  body : fd.body = .stmts body
  co : fd.scope.isCoroutine = false
  gen : fd.scope.isGenerator = false
  kind : fd.scope.kind = .function
  noCell : ∀ x ∈ fd.scope.names, x.2 ≠ .cell
  self : fd.scope.names.lookup ("self" : Str) = some .local
  cls : fd.scope.names.lookup ("__class__" : Str) = some .free
  sup : fd.scope.names.lookup ("super" : Str) = some .globalImplicit
  par : ∃ ar, (fd.params.posonlyargs ++ fd.params.args).head? = some ar ∧ ar.arg = "self"
  cell : ∃ cc o, fd.closure.lookup ("__class__" : Str) = some cc ∧ K.lookup cc = some o ∧ o.data = .cell (some (.ref C))
  glob : fd.globals = mainGlobals
  blt : fd.builtins = builtinsNs
  file : ∃ cda oc vs file tf, fd.code = .ref cda ∧ K.lookup cda = some oc ∧ oc.data = .fields vs ∧ vs[2]? = some (.str file tf) ∧ ((prog.main.file : Str) == file) = true
  top : (prog.main.scope.names.lookup ("super" : Str)).isSome = false

section
variable {c : Cx} {A : Around} {E : Value → Shared → Prop} {x f L : Addr} {s : Shared} {fd : FuncData} {body : List Stmt} {m : Str → Option Value} {ox : Obj} {od : Option Obj}

theorem super_obj {p0 p1 : Pos} {attr : Str} {whole : Sem Value} {bd : List Stmt} {Q : Value → Shared → Prop} (O : Ok c) (S : SupFn c.prog c.K c.C f fd body) (k : ClsK c.K c.C) (X : c.K.In s.heap) (hb : ∃ mb, s.heap.Ns builtinsNs mb ∧ ∀ x : Str, x ≠ "__name__" → mb x = bootBuiltins x)
    (hsup : nsIn c.K mainGlobals "super" = some none)
    (hn : s.heap.Ns L m) (hm : m "self" = some (.ref x)) (I : InstAt s.heap x ox c.C od) (hat : (attr == ("__class__" : Str)) = false)
    (h : ∀ h', (∀ b o, s.heap.get? b = some o → h'.get? b = some o) → h'.get? s.heap.objs.size = some { cls := .type "super", dict := none, data := .fields #[.ref c.C, .ref x, .ref c.C], slots := #[] } → Q (.ref s.heap.objs.size) { s with heap := h' }) :
    _root_.PySem.wpAt (model c.prog c.w) A (.func bd (callEnv fd L f)) (attributeBase (.Call (.Name "super" p0) [] [] p1) attr (callEnv fd L f) whole) Q E s := by
  obtain ⟨of, hf, hfd⟩ := S.get
  obtain ⟨ar, hp, hself⟩ := S.par
  obtain ⟨cc, occ, hcc, hoc, hdc⟩ := S.cell
  obtain ⟨cda, oc, vs, file, tf, q1, q2, q3, q4, q5⟩ := S.file
  obtain ⟨oC, cd, hC, hcd, _⟩ := k.obj X
  refine ks_wpAt_super_base (env := callEnv fd L f) S.sup S.cls hat rfl (X _ _ hf) hfd hp q1 (X _ _ q2) q3 q4 q5 S.top ?_
  refine ks_loadName_global S.kind S.sup ?_
  obtain ⟨mb, hmb, hv⟩ := hb
  unfold loadGlobal
  rw [show (callEnv fd L f).globals = mainGlobals from S.glob, show (callEnv fd L f).builtins = builtinsNs from S.blt]
  refine wpAny_bind ((looks_nsIn X hsup).here ?_)
  refine wpAny_bind (wpAny_nsGet hmb ?_)
  rw [hv "super" (by decide +kernel), show bootBuiltins "super" = some (.type "super") by decide +kernel]
  refine wpAny_pure ⟨rfl, ?_⟩
  refine wpAny_loadName_free S.kind S.cls hcc ⟨_, X _ _ hoc, hdc⟩ ?_
  rw [hself]
  refine wpAny_loadName_local S.kind S.self hn hm ?_
  obtain ⟨hh, g, d, t, os⟩ := s
  refine ks_wpAny_isType_cls hC hcd ⟨rfl, ?_⟩
  refine ks_wpAny_call_super hC hcd I.at_ I.cls (fun c e => ?_) (k.sub X _ true (by simp)) (fun h' e k => ?_)
  · have := I.no
    unfold notCls at this
    rw [e] at this
    exact Bool.noConfusion this
  · exact h h' k e
end
end Mine
end
section
open PySem PySem.W PySem.Calls PyProof.Rows PySem.Builtin
set_option Elab.async false
set_option linter.unusedVariables false
set_option maxRecDepth 100000
namespace Mine
open PySem.F

noncomputable abbrev superE (p0 p1 pa pb : Pos) (name : Str) : Expr := .Call (.Attribute (.Call (.Name "super" p0) [] [] p1) name pa) [] [] pb

section
variable {c : Cx} {A : Around} {E : Value → Shared → Prop} {x f L : Addr} {s : Shared} {fd : FuncData} {body bd : List Stmt} {m : Str → Option Value} {ox : Obj} {od : Option Obj} {n : Nat}

theorem inst_ne {K : Frag} {C : Addr} {h : Heap} (k : ClsK K C) (X : K.In h) (I : InstAt h x ox C od) : x ≠ C := by
  obtain ⟨oc, od', cd, sl, e, _⟩ := k.cls
  exact ks_ne (cd := cd) X I (by unfold clsIn; rw [e])

/-- super().name() with a built-in name -/
theorem super_meth {p0 p1 pa pb : Pos} {name : Str} {id T : String} {B : Builtin} {Q : Value → Shared → Prop} (O : Ok c) (S : SupFn c.prog c.K c.C f fd body) (k : ClsK c.K c.C) (X : c.K.In s.heap) (hb : ∃ mb, s.heap.Ns builtinsNs mb ∧ ∀ x : Str, x ≠ "__name__" → mb x = bootBuiltins x)
    (hsup : nsIn c.K mainGlobals "super" = some none) (hn : s.heap.Ns L m) (hm : m "self" = some (.ref x)) (I : InstAt s.heap x ox c.C od) (hpos : pa.endLine = pb.line)
    (H : LAttr name id T) (hf : alongIn c.K name [.type "list", .type "object"] = some (some (.builtin id))) (hB : entryFor table id = some B) (hpl : plainId id = true)
    (hck : ∀ s', (∀ b o, s.heap.get? b = some o → s'.heap.get? b = some o) → wpAny (model c.prog c.w) A.in1 (checkBoundCall id ⟨[.ref x], []⟩) (fun _ s'' => s'' = s') E s')
    (h : ∀ h' tk, (∀ b o, s.heap.get? b = some o → h'.get? b = some o) → wpAny (model c.prog c.w) A.in1 (B ⟨[.ref x], []⟩) (fun fin s' => ∃ v, fin = .done (.ret v) ∧ Q v s') E { s with heap := h', toks := tk }) :
    _root_.PySem.wpAt (model c.prog c.w) A (.func bd (callEnv fd L f)) (eval (superE p0 p1 pa pb name) (callEnv fd L f)) Q E s := by
  have hat : (name == ("__class__" : Str)) = false := by cases H <;> decide
  have hT : T = "builtin_function_or_method" ∨ T = "method-wrapper" := by cases H <;> simp
  show _root_.PySem.wpAt _ _ _ (eval (.Call (.Attribute (.Call (.Name "super" p0) [] [] p1) name pa) [] [] pb) (callEnv fd L f)) _ _ _
  rw [arm_eval_Call]
  refine _root_.PySem.wpAt_bind (super_obj O S k X hb hsup hn hm I hat fun h1 k1 e1 => _root_.PySem.wpAt_of_wpAny (wpAny_bind (wpAny_standAt ?_)))
  unfold methodCall
  show wpAny _ _ (holding [.ref s.heap.objs.size] (getMethod (.ref s.heap.objs.size) name _) >>= _) _ _ _
  have X1 : c.K.In h1 := X.keeps k1
  have I1 : InstAt h1 x ox c.C od := ⟨k1 _ _ I.at_, I.cls, I.no, by
    have := I.dict
    cases e : ox.dict with
    | none => rw [e] at this; cases od with
      | none => trivial
      | some o => exact this.elim
    | some dx => rw [e] at this; cases od with
      | none => exact this.elim
      | some o => exact k1 _ _ this⟩
  refine wpAny_bind (wpAny_holding (super_method H e1 (looks_opaque X1 k.opq) (k.mro X1) X1 hf (inst_ne k X1 I1) hat (isList_inst k X1 I1) ?_))
  show wpAny _ _ (methodCallPos true _ _ pa pb >>= fun callPos => callWith callPos (.ref h1.objs.size) [] [] []) _ _ _
  have : methodCallPos true (.Call (.Name "super" p0) [] [] p1) (callEnv fd L f) pa pb = pure pb := by
    unfold methodCallPos; rw [hpos]; simp
  rw [this]
  refine wpAny_bind (wpAny_pure ?_)
  have k2 : ∀ b o, s.heap.get? b = some o → (h1.push (boundObj T id x)).get? b = some o := fun b o e => Heap.get?_push_of_some _ (k1 b o e)
  exact bound_call hT hB hpl (Heap.get?_push_size _ rfl) (hck _ k2) (h _ _ k2)

/-- a call of a function that asks super -/
theorem sup_call {vals : List Value} {binds : List (Str × Value)} {Q : Value → Shared → Prop} (O : Ok c) (R : Rm (n + 1) A) (S : SupFn c.prog c.K c.C f fd body) (X : c.K.In s.heap) (hlim : s.heap.NoLimit) (hbind : BindsTo s fd ⟨vals, []⟩ binds)
    (hloc : ∀ y ∈ binds, fd.scope.names.lookup y.1 = some .local)
    (h : ∀ h₀ tk, h₀.Ns s.heap.objs.size (fun y => binds.reverse.lookup y) → (∀ b o, s.heap.get? b = some o → h₀.get? b = some o) →
      _root_.PySem.wpAt (model c.prog c.w) (A.deeper (callEnv fd s.heap.objs.size f)) (.func body (callEnv fd s.heap.objs.size f)) (execs body (callEnv fd s.heap.objs.size f)) (fun fl s' => Q (flV fl) s') (fun _ _ => False) { s with heap := h₀, toks := tk }) :
    codeAny (model c.prog c.w) A (.call (.ref f) ⟨vals, []⟩) (fun r s' => match r with | .ok (.ret v) => Q v s' | _ => False) s := by
  obtain ⟨of, hf, hfd⟩ := S.get
  refine ks_codeAny_call_defAt (fd := fd) (body := body) (binds := binds) (Nat.lt_of_le_of_lt (Nat.le_add_right _ (n + 1)) (Nat.lt_trans R.2.1 (by decide))) (X _ _ hf) hfd hlim (codeRec_of X S.code) S.body hbind S.noCell hloc (fun h₀ hns hk => ?_) S.co S.gen S.kind
  exact ks_wpAt_mono (h h₀ _ hns hk) (fun fl s' q => by cases fl <;> exact q) fun _ _ q => q.elim
end
end Mine
end
section
open PySem PySem.W PySem.Calls PyProof.Rows PySem.Builtin
set_option Elab.async false
set_option linter.unusedVariables false
set_option maxRecDepth 100000
namespace Mine
open PySem.F

theorem passes_list (self : Value) : refuseLoop self "__setattr__" [.type "list", .type "object"] = pure () := by kernel_rfl

section
variable {prog : Program} {w : World} {A : Around} {E : Value → Shared → Prop} {C x dx : Addr} {s : Shared} {K : Frag} {ox : Obj} {v : Value}

theorem put_empty (name : Str) (hs : Int) (t : Tok) (v : Value) : ∃ k, Obj.putName name hs (.str name t) v emptyDict = dictOf [⟨hs, .str name t, v⟩] k := by
  refine ⟨1, ?_⟩
  rw [Obj.putName_eq]
  simp [Obj.putNameByArray]

theorem set_first {name : Str} {Q : Unit → Shared → Prop} (k : ClsK K C) (X : K.In s.heap) (I : InstAt s.heap x ox C (some emptyDict)) (hd : ox.dict = some dx)
    (hsa : findIn K (.ref C) "__setattr__" = some (some (.builtin "object.__setattr__"))) (ht : findIn K (.ref C) name = some none)
    (h : ∀ h' tk hs t n, (∀ b o, b ≠ dx → s.heap.get? b = some o → h'.get? b = some o) → h'.get? dx = some (dictOf [⟨hs, .str name t, v⟩] n) → Q () { s with heap := h', toks := tk }) :
    wpAny (model prog w) A (setAttr (.ref x) name v) Q E s := by
  refine set_plain X I hsa ?_
  have SF := PySem.F.store_object
  have sub : Looks (model prog w) s.heap (isInstance (.ref x) (.type "object")) true := I.type.andThen (k.sub X _ true (by simp))
  refine codeAny_call_builtin SF.slot.plain SF.entry (@check_slot (model prog w) _ _ { s with toks := s.toks + 1 } "object.__setattr__" "object" "__setattr__" (.ref x) [.str name s.toks, v] [] _ SF.kind SF.split sub (SF.args (.ref x) (.str name s.toks) v) ?_)
  have hm : Looks (model prog w) s.heap (mroOf (.ref C)) [.ref C, .type "list", .type "object"] := k.mro X
  rw [osa_eq, refuse_eq]
  refine wpAny_bind (wpAny_bind ((I.type (M := model prog w)).at (wpAny_bind (hm.at ?_))))
  rw [refuseLoop_ref, passes_list]
  refine wpAny_pure (wpAny_bind ((I.type (M := model prog w)).at (wpAny_bind ((looks_findIn X ht).at (wpAny_bind (wpAny_pure ?_))))))
  obtain ⟨oc, od', cd, sl, e, m, d, hdict, _⟩ := k.cls
  have hc : clsIn K C = some cd := by unfold clsIn; rw [e]
  have hD := I.dict
  rw [hd] at hD
  have hx := I.at_
  have hcl := I.cls
  obtain ⟨oc2, odi, oda, osl⟩ := ox
  dsimp only at hcl hd
  subst hcl hd
  have Lc : Looks (model prog w) s.heap (classData C) cd := looks_clsIn X hc
  refine wpAny_bind (wpAny_pure (wpAny_bind (wpAny_bind (wpAny_loadPart hx (wpAny_bind (Lc.at ?_))))))
  rw [hdict]
  refine wpAny_pure (a := some dx) (wpAny_bind (wpAny_pure (wpAny_bind ?_)))
  unfold nsSet
  refine wpAny_bind (wpAny_bind (wpAny_askSetting (wpAny_pure (wpAny_bind (wpAny_mkText (wpAny_bind (wpAny_loadPart hD ?_)))))))
  obtain ⟨n, en⟩ := put_empty name (PyData.keyHash w.params name) (s.toks + 1) v
  have hget : (s.heap.update dx (Obj.putName name (PyData.keyHash w.params name) (.str name (s.toks + 1)) v)).get? dx = some (dictOf [⟨PyData.keyHash w.params name, .str name (s.toks + 1), v⟩] n) := by
    rw [Heap.get?_update_self _ hD (by rw [en]; rfl), en]
  dsimp only
  rw [aRefKeyMayBeTheName_at]
  rw [if_neg (by simp)]
  refine wpAny_updatePart (s := { s with toks := s.toks + 1 + 1 }) hD ?_
  refine wpAny_bind (wpAny_lookBehind hget (pastItsLine_dict (by simp [sizeLine]) ) ?_)
  exact wpAny_pure (h _ _ _ _ n (fun b o hb e => (Heap.get?_update_ne _ _ _ _ hb).trans e) hget)
end
end Mine
end
section
open PySem PySem.W PySem.Calls PyProof.Rows PySem.Builtin
set_option Elab.async false
set_option linter.unusedVariables false
set_option maxRecDepth 100000
namespace Mine
open PySem.F

structure InitK (c : Cx) (fI : Addr) : Prop where
  cls : ClsK c.K c.C
  sup : nsIn c.K mainGlobals "super" = some none
  setattr : findIn c.K (.ref c.C) "__setattr__" = some (some (.builtin "object.__setattr__"))
  slot : findIn c.K (.ref c.C) "_initial_size" = some none
  init : findIn c.K (.ref c.C) "__init__" = some (some (.ref fI))
  typ : typeIn c.K (.ref fI) = some (.type "function")
  fn : ∃ fd p1 p2 p3 p4 p5 p6 p7 p8 p9 v0, SupFn c.prog c.K c.C fI fd [.Assign [.Attribute (.Name "self" p1) "_initial_size" p2] (.Name "initial_size" p3) p4, .Expr (superE p5 p6 p7 p8 "__init__") p9] ∧ p7.endLine = p8.line ∧
    (∀ s a, c.K.In s.heap → BindsTo s fd ⟨[a], []⟩ [("self", a), ("initial_size", v0)]) ∧ fd.scope.names.lookup ("initial_size" : Str) = some .local
  along : alongIn c.K "__init__" [.type "list", .type "object"] = some (some (.builtin "list.__init__"))

section
variable {c : Cx} {A : Around} {x dx fI : Addr} {s : Shared} {n : Nat}

theorem w_type (C : Addr) : (Code.builtin "type.__call__" ⟨[.ref C], []⟩).weight = 1 := by kernel_rfl
theorem u_type (C : Addr) : (Code.builtin "type.__call__" ⟨[.ref C], []⟩).cUnits = 1 := by kernel_rfl
theorem under_type {C : Addr} (R : Rm (n + 2) A) : Rm (n + 1) (A.under (.builtin "type.__call__" ⟨[.ref C], []⟩)) := by
  refine ⟨R.1, ?_, ?_⟩
  · have := R.2.1
    show A.depth + (Code.builtin "type.__call__" ⟨[.ref C], []⟩).weight + (n + 1) < 900
    rw [w_type]; omega
  · have := R.2.2
    show A.units + (Code.builtin "type.__call__" ⟨[.ref C], []⟩).cUnits + 10 * (n + 1) < 9000
    rw [u_type]; omega

theorem acc_make {Q : Value → Shared → Prop} (O : Ok c) (R : Rm (n + 2) A) (I : InitK c fI) (X : c.K.In s.heap) (hlim : s.heap.NoLimit) (hb : ∃ mb, s.heap.Ns builtinsNs mb ∧ ∀ x : Str, x ≠ "__name__" → mb x = bootBuiltins x)
    (hQ : ∀ x dx od nn h' tk, s.heap.get? x = none → s.heap.get? dx = none → x ≠ dx → (∀ b o, s.heap.get? b = some o → h'.get? b = some o) → h'.get? x = some (accObj c.C dx [] nn) → h'.get? dx = some od → AccDict od → Q (.ref x) { s with heap := h', toks := tk }) :
    wpAny (model c.prog c.w) A (call (.ref c.C) []) Q (fun _ _ => False) s := by
  obtain ⟨fd, p1, p2, p3, p4, p5, p6, p7, p8, p9, v0, S, hpos, hbind, hloc⟩ := I.fn
  obtain ⟨hh, g, d, t, os⟩ := s
  refine wpAny_call (make_list (n := 0) (fI := fI) (I.cls.kls X) (looks_findIn X I.init) (fun self => bind_fn X self I.typ) ?_)
  have k1 : ∀ b o, hh.get? b = some o → ((hh.push emptyDict).push (seqObj c.C hh.objs.size)).get? b = some o := fun b o e => Heap.get?_push_of_some _ (Heap.get?_push_of_some _ e)
  have hxn : hh.get? (hh.objs.size + 1) = none := by
    cases e : hh.get? (hh.objs.size + 1) with
    | none => rfl
    | some o => exact absurd (Heap.lt_size e) (fun q => Nat.lt_irrefl _ (Nat.lt_trans (Nat.lt_succ_self _) q))
  have hx1 : ((hh.push emptyDict).push (seqObj c.C hh.objs.size)).get? (hh.objs.size + 1) = some (seqObj c.C hh.objs.size) := by heap_get
  have hd1 : ((hh.push emptyDict).push (seqObj c.C hh.objs.size)).get? hh.objs.size = some emptyDict := by heap_get
  generalize hH1 : (hh.push emptyDict).push (seqObj c.C hh.objs.size) = h1 at *
  have hdn := size_none hh
  generalize hdx : hh.objs.size = dx at *
  have X1 : c.K.In h1 := X.keeps k1
  refine codeAny_mono (sup_call (s := ⟨h1, g, d, t, os⟩) (Q := fun v s' => v = .none ∧ Q (.ref (dx + 1)) s') O (under_type R) S X1 (hlim.keeps k1) (hbind _ _ X1) (fun y hy => ?_) fun h2 tk hn2 k2 => ?_) fun r s' z => ?_
  · rcases List.mem_cons.mp hy with rfl | hy
    · exact S.self
    · rw [List.mem_singleton.mp hy]; exact hloc
  · have X2 : c.K.In h2 := X1.keeps k2
    have hx2 := k2 _ _ hx1
    have hd2 := k2 _ _ hd1
    have hms : (fun y => List.lookup y (List.reverse [(("self" : Str), Value.ref (dx + 1)), ("initial_size", v0)])) "self" = some (.ref (dx + 1)) := by
      show List.lookup ("self" : Str) [(("initial_size" : Str), v0), ("self", Value.ref (dx + 1))] = _
      rw [List.lookup_cons, show (("self" : Str) == "initial_size") = false by decide, List.lookup_cons, show (("self" : Str) == "self") = true by decide]
    have hmi : (fun y => List.lookup y (List.reverse [(("self" : Str), Value.ref (dx + 1)), ("initial_size", v0)])) "initial_size" = some v0 := by
      show List.lookup ("initial_size" : Str) [(("initial_size" : Str), v0), ("self", Value.ref (dx + 1))] = _
      rw [List.lookup_cons, show (("initial_size" : Str) == "initial_size") = true by decide]
    have I2 : InstAt h2 (dx + 1) (seqObj c.C dx) c.C (some emptyDict) := ⟨hx2, rfl, rfl, hd2⟩
    refine ks_wpAt_execs_cons (ks_wpAt_Assign_Attr (_root_.PySem.wpAt_of_wpAny (wpAny_Name (wpAny_loadName_local S.kind hloc hn2 hmi (wpAny_Name (wpAny_loadName_local S.kind S.self hn2 hms ?_) (by decide))) (by decide))) (by rfl))
    refine set_first (s := ⟨h2, g, d, tk, os⟩) I.cls X2 I2 rfl I.setattr I.slot fun h3 tk3 hs3 t3 n3 k3 e3 => ?_
    have k03 : ∀ b o, hh.get? b = some o → h3.get? b = some o := fun b o e => k3 b o (fun q => by rw [q, hdn] at e; cases e) (k2 b o (k1 b o e))
    have X3 : c.K.In h3 := X.keeps k03
    have hx3 : h3.get? (dx + 1) = some (seqObj c.C dx) := k3 _ _ (Nat.succ_ne_self dx) hx2
    have hL : h1.objs.size ≠ dx := fun q => by have := Heap.lt_size hd1; rw [q] at this; exact Nat.lt_irrefl _ this
    have hn3 : h3.Ns h1.objs.size (fun y => List.lookup y (List.reverse [(("self" : Str), Value.ref (dx + 1)), ("initial_size", v0)])) := hn2.at' fun o e => k3 _ o hL e
    obtain ⟨mb, hmb, hmv⟩ := hb
    have I3 : InstAt h3 (dx + 1) (seqObj c.C dx) c.C (some (dictOf [⟨hs3, .str "_initial_size" t3, v0⟩] n3)) := ⟨hx3, rfl, rfl, e3⟩
    refine ks_wpAt_execs_cons (ks_wpAt_Expr_any (super_meth (s := ⟨h3, g, d, tk3, os⟩) O S I.cls X3 ⟨mb, hmb.keeps k03, hmv⟩ I.sup hn3 hms I3 hpos .init I.along entry_linit (by decide +kernel) (fun s' _ => by rw [bc_init]; exact wpAny_pure rfl) fun h4 tk4 k4 => ?_) ?_ (by rfl))
    · refine init_body (s := ⟨h4, g, d, tk4, os⟩) (k4 _ _ hx3) rfl fun h5 hs5 e5 => ?_
      have k5 : ∀ b o, b ≠ dx + 1 → h4.get? b = some o → h5.get? b = some o := hs5.extBut
      refine _root_.PySem.wpAt_of_wpAny (wpAny_execs_nil ⟨rfl, ?_⟩)
      obtain ⟨nn, hx5⟩ : ∃ nn, h5.get? (dx + 1) = some (accObj c.C dx [] nn) := ⟨_, by rw [e5]; rfl⟩
      exact hQ (dx + 1) dx _ nn h5 tk4 hxn hdn (Nat.succ_ne_self dx) (fun b o e => k5 b o (fun q => by rw [q, hxn] at e; cases e) (k4 b o (k03 b o e))) hx5 (k5 _ _ (Ne.symm (Nat.succ_ne_self dx)) (k4 _ _ e3)) ⟨_, _, _, _, rfl⟩
    · show interactive (callEnv fd h1.objs.size fI) = false
      unfold interactive
      simp [callEnv, newEnv, S.kind]
  · rcases r with e | (v | _ | _ | _) <;> first | exact z | exact z.elim | skip
end
end Mine
end
section
open PySem PySem.W PySem.Calls PyProof.Rows PySem.Builtin
set_option Elab.async false
set_option linter.unusedVariables false
set_option maxRecDepth 100000
namespace Mine
open PySem.F

structure CountK (c : Cx) (fN : Addr) : Prop where
  cls : ClsK c.K c.C
  sup : nsIn c.K mainGlobals "super" = some none
  find : findIn c.K (.ref c.C) "part_count" = some (some (.ref fN))
  typ : typeIn c.K (.ref fN) = some (.type "function")
  fn : ∃ fd p5 p6 p7 p8 p9, SupFn c.prog c.K c.C fN fd [.Return (some (superE p5 p6 p7 p8 "__len__")) p9] ∧ p7.endLine = p8.line ∧ (∀ a, bindArgs fd ⟨[a], []⟩ = pure [(("self" : Str), a)])
  along : alongIn c.K "__len__" [.type "list", .type "object"] = some (some (.builtin "list.__len__"))
structure PopK (c : Cx) (fN fO : Addr) : Prop where
  cnt : CountK c fN
  find : findIn c.K (.ref c.C) "pop" = some (some (.ref fO))
  typ : typeIn c.K (.ref fO) = some (.type "function")
  fn : ∃ fd p5 p6 p7 p8 p9 q1 q2 q3 k q4 q5 k1 r1 k2 r2 k3 r3 r4 q6, SupFn c.prog c.K c.C fO fd
      [.If (.Compare (.Call (.Attribute (.Name "self" q1) "part_count" q2) [] [] q3) [.Eq] [.Constant (.int 0) k q4] q5) [.Return (some (.Tuple [.Constant (.str "") k1 r1, .Constant (.str "") k2 r2] k3 r3)) r4] [] q6,
        .Return (some (superE p5 p6 p7 p8 "pop")) p9] ∧ p7.endLine = p8.line ∧ q2.endLine = q3.line ∧ (∀ a, bindArgs fd ⟨[a], []⟩ = pure [(("self" : Str), a)])
  along : alongIn c.K "pop" [.type "list", .type "object"] = some (some (.builtin "list.pop"))
  chk : ∃ cd sig, clsIn c.K c.C = some cd ∧ Manifest.signature? "list.pop" = some sig ∧ ∀ a, Bind.checkArgs "list.pop" { sig with full := s!"{cd.qualname.toString}.{Bind.lastOf "list.pop"}" } ⟨[a], []⟩ = pure ()

section
variable {c : Cx} {A : Around} {E : Value → Shared → Prop} {x dd fN fO : Addr} {s : Shared} {n : Nat} {vs us : List Value} {nn : Nat} {od : Obj}

theorem acc_inst {h : Heap} (hx : h.get? x = some (accObj c.C dd vs nn)) (hd : h.get? dd = some od) : InstAt h x (accObj c.C dd vs nn) c.C (some od) := ⟨hx, rfl, rfl, hd⟩
theorem self_map {a : Value} : (fun y => List.lookup y (List.reverse [(("self" : Str), a)])) "self" = some a := by
  show List.lookup ("self" : Str) [(("self" : Str), a)] = _
  rw [List.lookup_cons, show (("self" : Str) == "self") = true by decide]

theorem call_count {Q : Value → Shared → Prop} (O : Ok c) (R : Rm (n + 1) A) (I : CountK c fN) (X : c.K.In s.heap) (hlim : s.heap.NoLimit) (hb : ∃ mb, s.heap.Ns builtinsNs mb ∧ ∀ x : Str, x ≠ "__name__" → mb x = bootBuiltins x)
    (hx : s.heap.get? x = some (accObj c.C dd vs nn)) (hd : s.heap.get? dd = some od)
    (hQ : ∀ h' t tk, (∀ b o, s.heap.get? b = some o → h'.get? b = some o) → Q (.int vs.length t) { s with heap := h', toks := tk }) :
    wpAny (model c.prog c.w) A (call (.ref fN) [.ref x]) Q (fun _ _ => False) s := by
  obtain ⟨fd, p5, p6, p7, p8, p9, S, hpos, hbind⟩ := I.fn
  refine wpAny_call (codeAny_mono (sup_call (Q := Q) O R S X hlim (BindsTo.of_eq (hbind _)) (fun y hy => ?_) fun h2 tk hn2 k2 => ?_) fun r s' z => ?_)
  · rw [List.mem_singleton.mp hy]; exact S.self
  · obtain ⟨mb, hmb, hmv⟩ := hb
    refine ks_wpAt_execs_cons (ks_wpAt_Return_some (super_meth (s := { s with heap := h2, toks := tk }) O S I.cls (X.keeps k2) ⟨mb, hmb.keeps k2, hmv⟩ I.sup hn2 self_map (acc_inst (k2 _ _ hx) (k2 _ _ hd)) hpos .len I.along entry_len (by decide +kernel)
      (fun s' _ => by rw [bc_len]; exact wpAny_pure rfl) fun h4 tk4 k4 => ?_))
    refine len_body (k4 _ _ (k2 _ _ hx)) rfl fun t k => ?_
    show Q (.int vs.toArray.size t) _
    rw [List.size_toArray]
    exact hQ h4 t k fun b o e => k4 b o (k2 b o e)
  · rcases r with e | (v | _ | _ | _) <;> first | exact z | exact z.elim

theorem map_acc (C dd : Addr) (vs : List Value) (n : Nat) (f : Array Value → Array Value) : ∃ n', (accObj C dd vs n).mapSeq f = { cls := .ref C, dict := some dd, data := .seq (f vs.toArray) n' } := ⟨_, rfl⟩
theorem bound_pop {ox : Obj} {oq : Option Obj} (I : PopK c fN fO) (X : c.K.In s.heap) (J : InstAt s.heap x ox c.C oq) : wpAny (model c.prog c.w) A (checkBoundCall "list.pop" ⟨[.ref x], []⟩) (fun _ s'' => s'' = s) E s := by
  obtain ⟨cd, sig, hcd, hsig, hchk⟩ := I.chk
  have hk : builtinKind "list.pop" = some .method := by decide +kernel
  have hva : Manifest.varargsMethods.contains "list.pop" = false := by decide +kernel
  obtain ⟨oc, od', cd', sl, e, _, _, _, hoc, _⟩ := I.cnt.cls.cls
  have hty : Looks (model c.prog c.w) s.heap (typeOf (.ref c.C)) (.type "type") := looks_typeIn X (by show (c.K.lookup c.C).map _ = _; rw [e, hoc]; rfl)
  unfold checkBoundCall
  rw [hsig, hk]
  dsimp only
  rw [if_neg (by decide)]
  refine wpAny_bind ((J.type.andThen (I.cnt.cls.sub X (.type "module") false (by simp))).here ?_)
  rw [hva]
  rw [if_neg (by decide)]
  obtain ⟨hh, g, d, t, os⟩ := s
  refine wpAny_bind (ks_wpAny_isType_inst J.at_ (fun c e => ?_) ?_)
  · have := J.no
    unfold notCls at this
    rw [e] at this
    exact Bool.noConfusion this
  · rw [if_neg (by decide)]
    refine wpAny_bind ((J.type (M := model c.prog c.w)).at ?_)
    refine wpAny_bind ((looks_clsIn X hcd).at (wpAny_bind (hty.at ?_)))
    rw [if_pos (by decide), hchk]
    exact wpAny_pure rfl
theorem shadow_acc {name : Str} {hs : Int} {t : Tok} {v : Value} {k : Nat} (h : (("_initial_size" : Str) == name) = false) : shadowIn (some (dictOf [⟨hs, .str "_initial_size" t, v⟩] k)) name = some false := by
  have e : (Value.str "_initial_size" t).isStr name = false := by
    cases q : (Value.str "_initial_size" t).isStr name with
    | false => rfl
    | true =>
      have : (("_initial_size" : Str) == name) = true := by
        first
          | exact q
          | simpa [Value.isStr] using q
      rw [h] at this; cases this
  simp [shadowIn, lookIn, dictOf, e, DictEntry.refKey]

theorem call_pop {Q : Value → Shared → Prop} (O : Ok c) (R : Rm (n + 2) A) (I : PopK c fN fO) (X : c.K.In s.heap) (hlim : s.heap.NoLimit) (hb : ∃ mb, s.heap.Ns builtinsNs mb ∧ ∀ x : Str, x ≠ "__name__" → mb x = bootBuiltins x)
    (hx : s.heap.get? x = some (accObj c.C dd vs nn)) (hd : s.heap.get? dd = some od) (had : AccDict od) (hsz : vs.length ≤ 10000000)
    (h0 : vs = [] → ∀ a h' t1 t2 tk, (∀ b o, s.heap.get? b = some o → h'.get? b = some o) → s.heap.get? a = none → h'.get? a = some (tupObj [.str "" t1, .str "" t2] 0) → Q (.ref a) { s with heap := h', toks := tk })
    (h1 : ∀ us v, vs = us ++ [v] → ∀ h' n' tk, (∀ b o, b ≠ x → s.heap.get? b = some o → h'.get? b = some o) → h'.get? x = some (accObj c.C dd us n') → Q v { s with heap := h', toks := tk }) :
    wpAny (model c.prog c.w) A (call (.ref fO) [.ref x]) Q (fun _ _ => False) s := by
  obtain ⟨fd, p5, p6, p7, p8, p9, q1, q2, q3, k, q4, q5, k1, r1, k2, r2, k3, r3, r4, q6, S, hpos, hpos2, hbind⟩ := I.fn
  obtain ⟨oN, fdN, hN, hNd⟩ : ∃ o fd, c.K.lookup fN = some o ∧ o.data = .func fd := by
    obtain ⟨fd, _, _, _, _, _, S, _⟩ := I.cnt.fn
    obtain ⟨o, e1, e2⟩ := S.get
    exact ⟨o, fd, e1, e2⟩
  refine wpAny_call (codeAny_mono (sup_call (n := n + 1) (Q := Q) O R S X hlim (BindsTo.of_eq (hbind _)) (fun y hy => ?_) fun h2 tk hn2 kk => ?_) fun r s' z => ?_)
  · rw [List.mem_singleton.mp hy]; exact S.self
  · obtain ⟨mb, hmb, hmv⟩ := hb
    have X2 := X.keeps kk
    obtain ⟨hs, td, vd, kd, rfl⟩ := had
    have I2 := acc_inst (c := c) (kk _ _ hx) (kk _ _ hd)
    refine ks_wpAt_execs_cons (ks_wpAt_If (_root_.PySem.wpAt_of_wpAny (wpAny_isTrue_Compare1 (meth_call rfl rfl (by decide) hpos2 (wpAny_Name (wpAny_loadName_local S.kind S.self hn2 self_map ?_) (by decide))) rfl)))
    refine method_any (s := { s with heap := h2, toks := tk }) I.cnt.cls X2 I2 I.cnt.find I.cnt.typ (.inl rfl) (shadow_acc (by decide)) ?_
    refine callWith_function (o := oN) (fd := fdN) (PyProof.Rows.evalArgs_none ⟨⟨X2 _ _ hN, hNd⟩, ?_⟩)
    refine call_count (s := { s with heap := h2, toks := tk }) (n := n) O R.deep I.cnt X2 (hlim.keeps kk) ⟨mb, hmb.keeps kk, hmv⟩ (kk _ _ hx) (kk _ _ hd) fun h3 t3 tk3 kk3 => ?_
    refine wpAny_Constant_int ?_
    have kk23 : ∀ b o, s.heap.get? b = some o → h3.get? b = some o := fun b o e => kk3 b o (kk b o e)
    have hop := cmpP_ok (c := c) (A := A.deeper (callEnv fd s.heap.objs.size fO)) (fm := []) (ρ := []) (st := []) (s := { s with heap := h3, toks := tk3 + 1 }) (op := .Eq) (a := .int vs.length t3) (b := .int 0 tk3) (x := .int vs.length) (y := .int 0) (r := ((vs.length : Int) == 0)) (n := n + 1) R.deep (.int _ _) (.int _ _) rfl
    refine hop _ fun vb s4 k4 lb => ?_
    obtain ⟨h4, tk4, rfl, kk4⟩ := k4
    cases lb
    refine wpAny_pure ?_
    have kk24 : ∀ b o, s.heap.get? b = some o → h4.get? b = some o := fun b o e => kk4 b o (kk23 b o e)
    cases hv : ((vs.length : Int) == 0)
    · have hne : vs ≠ [] := fun e => by rw [e] at hv; cases hv
      obtain ⟨us, v, rfl⟩ : ∃ us v, vs = us ++ [v] := ⟨vs.dropLast, vs.getLast hne, (List.dropLast_concat_getLast hne).symm⟩
      refine _root_.PySem.wpAt_of_wpAny (wpAny_execs_nil ?_)
      refine ks_wpAt_execs_cons (ks_wpAt_Return_some (super_meth (s := { s with heap := h4, toks := tk4 }) O S I.cnt.cls (X.keeps kk24) ⟨mb, hmb.keeps kk24, hmv⟩ I.cnt.sup (hn2.at' fun o e => kk4 _ o (kk3 _ o e)) self_map (acc_inst (kk24 _ _ hx) (kk24 _ _ hd)) hpos .pop I.along entry_pop (by decide +kernel)
        (fun s' ks' => ?_) fun h5 tk5 kk5 => ?_))
      · exact bound_pop I (X.keeps fun b o e => ks' b o (kk24 b o e)) (acc_inst (ks' _ _ (kk24 _ _ hx)) (ks' _ _ (kk24 _ _ hd)))
      · refine pop_body (kk5 _ _ (kk24 _ _ hx)) rfl (v := v) (by rw [List.size_toArray, List.length_append, List.length_singleton, Nat.add_sub_cancel, List.getElem?_toArray, List.getElem?_append_right (Nat.le_refl _)]; simp) (by rw [List.size_toArray]; exact hsz) fun h6 hs6 e6 => ?_
        have kk6 : ∀ b o, b ≠ x → h5.get? b = some o → h6.get? b = some o := hs6.extBut
        obtain ⟨n', hx6⟩ : ∃ n', h6.get? x = some (accObj c.C dd us n') := by
          have e7 : ((us ++ [v]).toArray.eraseIdxIfInBounds ((us ++ [v]).toArray.size - 1)) = us.toArray := by
            rw [List.size_toArray, List.length_append, List.length_singleton, Nat.add_sub_cancel]
            unfold Array.eraseIdxIfInBounds
            rw [dif_pos (by simp)]
            simp [List.eraseIdx_append_of_length_le]
          obtain ⟨n', e8⟩ := map_acc c.C dd (us ++ [v]) nn (·.eraseIdxIfInBounds ((us ++ [v]).toArray.size - 1))
          exact ⟨n', by rw [e6, e8, e7]; rfl⟩
        exact h1 us v rfl h6 n' tk5 (fun b o hb e => kk6 b o hb (kk5 b o (kk24 b o e))) hx6
    · have hv0 : vs = [] := by
        have : (vs.length : Int) = 0 := beq_iff_eq.mp hv
        exact List.eq_nil_of_length_eq_zero (by omega)
      refine ks_wpAt_execs_cons (ks_wpAt_Return_some (_root_.PySem.wpAt_of_wpAny (wpAny_Tuple (wpAny_items_cons (wpAny_Constant_str (wpAny_items_cons (wpAny_Constant_str (wpAny_items_nil ?_)))))) ))
      refine ⟨by simp [sizeLine], ?_⟩
      exact h0 hv0 h4.objs.size _ tk4 (tk4 + 1) (tk4 + 1 + 1) (fun b o e => Heap.get?_push_of_some _ (kk24 b o e)) (by
        cases e : s.heap.get? h4.objs.size with
        | none => rfl
        | some o => exact absurd (Heap.lt_size (kk24 _ _ e)) (Nat.lt_irrefl _)) (Heap.get?_push_size _ rfl)
  · rcases r with e | (v | _ | _ | _) <;> first | exact z | exact z.elim
end
end Mine
end
section
open PySem PySem.W PySem.Calls PyProof.Rows PySem.Builtin
set_option Elab.async false
set_option linter.unusedVariables false
set_option maxRecDepth 20000
namespace Mine
open PySem.Sre (M)

noncomputable def code1 : Array Nat := #[14, 4, 0, 1, 1, 6, 1, 16, 46, 1]
noncomputable def code2 : Array Nat := #[14, 9, 4, 1, 2, 16, 10, 16, 13, 0, 7, 7, 16, 13, 16, 10, 15, 18, 5, 16, 10, 15, 13, 11, 16, 13, 5, 5, 0, 16, 10, 1, 15, 2, 0, 1]

noncomputable def ln (text : Array Nat) (s : Nat) : Bool := s == 0 || text.getD (s - 1) 0 == 10

/-- the machine at the head of an attempt -/
noncomputable def at1 (text : Array Nat) (st s : Nat) (o : Bool) (sn : Sre.Seen) : M :=
  { code := code1, text, lim := text.size, start := s, lastStart := text.size, pc := 5, pos := s, handed := s, outermost := o, marks := #[],
    frames := [{ wait := .nextStart, pc := 5, pos := s, outermost := o }], weight := 1, seen := sn }

theorem start1 (text : Array Nat) (s : Nat) (h : s < text.size) : Sre.forSearch code1 text 0 s text.size false = at1 text s s true (({} : Sre.Seen).add 14) := by
  have h1 : ¬ s > text.size := by omega
  have h2 : ¬ text.size - s < 1 := by omega
  show (if (decide (s > text.size) || decide (text.size - s < 1)) = true then _ else _) = _
  rw [decide_eq_false h1, decide_eq_false h2]
  rfl
theorem start1_end (text : Array Nat) (s : Nat) (h : ¬ s < text.size) : ∃ m, Sre.forSearch code1 text 0 s text.size false = m ∧ (m.runFor 1).outcome = some .failed := by
  refine ⟨_, rfl, ?_⟩
  have h2 : (decide (s > text.size) || decide (text.size - s < 1)) = true := by
    rw [Bool.or_eq_true, decide_eq_true_iff, decide_eq_true_iff]; omega
  show (M.runFor 1 (if (decide (s > text.size) || decide (text.size - s < 1)) = true then _ else _)).outcome = _
  rw [h2]
  rfl
theorem step1a (text : Array Nat) (st s : Nat) (o : Bool) (sn : Sre.Seen) :
    (at1 text st s o sn).step = if ln text s = true then { at1 text st s o ((sn.add 6).add 44) with pc := 7 } else { at1 text st s o ((sn.add 6).add 44) with answer := some false } := by rfl

theorem step1b (text : Array Nat) (st s : Nat) (o : Bool) (sn : Sre.Seen) :
    ({ at1 text st s o sn with pc := 7 } : M).step = if s ≥ text.size then { at1 text st s o (sn.add 16) with pc := 7, answer := some false } else
      match text.getD s 0 == 46 with
      | false => { at1 text st s o (sn.add 16) with pc := 7, answer := some false }
      | true => { at1 text st s o (sn.add 16) with pc := 9, pos := s + 1 } := by kernel_rfl
theorem step1f (text : Array Nat) (st s p : Nat) (o : Bool) (sn : Sre.Seen) :
    ({ at1 text st s o sn with pc := p, answer := some false } : M).step = if s < text.size then at1 text (s + 1) (s + 1) false sn else { at1 text st s o sn with frames := [], weight := 0, answer := some false } := by rfl
theorem step1c (text : Array Nat) (st s : Nat) (o : Bool) (sn : Sre.Seen) :
    ({ at1 text st s o sn with pc := 9, pos := s + 1 } : M).step = { at1 text st s o (sn.add 1) with pc := 9, pos := s + 1, handed := s + 1, answer := some true } := by cases o <;> rfl
theorem step1d (text : Array Nat) (st s : Nat) (o : Bool) (sn : Sre.Seen) :
    ({ at1 text st s o sn with pc := 9, pos := s + 1, handed := s + 1, answer := some true } : M).step = { at1 text st s o sn with frames := [], weight := 0, handed := s + 1, answer := some true } := by rfl
theorem step1e (text : Array Nat) (st s : Nat) (o b : Bool) (hd : Nat) (sn : Sre.Seen) :
    ({ at1 text st s o sn with frames := [], weight := 0, handed := hd, answer := some b } : M).step = { at1 text st s o sn with frames := [], weight := 0, handed := hd, answer := some b, outcome := some (if b = true then .matched else .failed) } := by rfl

theorem run_step {m : M} (n : Nat) (h : m.outcome.isSome = false) : M.runFor (n + 1) m = M.runFor n m.step := by
  rw [M.runFor, h]; rfl
theorem run_done {m : M} (n : Nat) (h : m.outcome.isSome = true) : M.runFor n m = m := by
  cases n with
  | zero => rfl
  | succ n => rw [M.runFor, h]; rfl
theorem run_add : ∀ (a b : Nat) (m : M), M.runFor (a + b) m = M.runFor b (M.runFor a m)
  | 0, b, m => by rw [Nat.zero_add]; rfl
  | a + 1, b, m => by
    cases h : m.outcome.isSome with
    | true => rw [run_done _ h, run_done _ h, run_done _ h]
    | false => rw [show a + 1 + b = (a + b) + 1 by omega, run_step _ h, run_step _ h]; exact run_add a b m.step

/-- the first place, from s on, at which pattern 1 matches -/
noncomputable def hit1 (text : Array Nat) (s : Nat) : Bool := ln text s && (decide (s < text.size) && text.getD s 0 == 46)
noncomputable def find1 (text : Array Nat) : Nat → Nat → Option Nat
  | 0, _ => none
  | n + 1, s => if hit1 text s = true then some s else find1 text n (s + 1)
noncomputable def Ends (m : M) (a : Option (Nat × Nat)) (k : Nat) : Prop := match a with
  | some p => (M.runFor k m).outcome = some .matched ∧ (M.runFor k m).start = p.1 ∧ (M.runFor k m).handed = p.2
  | none => (M.runFor k m).outcome = some .failed
theorem Ends.more {m m' : M} {a : Option (Nat × Nat)} {j k : Nat} (h : M.runFor j m = m') (x : Ends m' a k) : Ends m a (j + k) := by
  unfold Ends at x ⊢
  rw [run_add, h]; exact x

theorem search1 (text : Array Nat) : ∀ (n s st : Nat) (o : Bool) (sn : Sre.Seen), s ≤ text.size → text.size + 1 - s = n → st = s → ∃ k, k ≤ 5 * n ∧ Ends (at1 text st s o sn) ((find1 text n s).map fun q => (q, q + 1)) k := by
  intro n
  induction n with
  | zero => intro s st o sn h e; omega
  | succ n ih =>
    intro s st o sn h e hst
    subst hst
    by_cases hh : hit1 text st = true
    · refine ⟨5, by omega, ?_⟩
      rw [find1, if_pos hh]
      unfold hit1 at hh
      simp only [Bool.and_eq_true, decide_eq_true_eq] at hh
      obtain ⟨h1, h2, h3⟩ := hh
      have e1 := step1a text st st o sn
      rw [if_pos h1] at e1
      have e2 := step1b text st st o ((sn.add 6).add 44)
      rw [if_neg (by omega), h3] at e2
      have : M.runFor 5 (at1 text st st o sn) = { at1 text st st o (((( sn.add 6).add 44).add 16).add 1) with frames := [], weight := 0, handed := st + 1, answer := some true, outcome := some .matched } := by
        rw [run_step 4 rfl, e1, run_step 3 rfl, e2, run_step 2 rfl, step1c, run_step 1 rfl, step1d, run_step 0 rfl, step1e]; rfl
      exact ⟨by rw [this], by rw [this]; rfl, by rw [this]⟩
    · have go : ∃ j sn', j ≤ 3 ∧ 0 < j ∧ M.runFor j (at1 text st st o sn) = (if st < text.size then at1 text (st + 1) (st + 1) false sn' else { at1 text st st o sn' with frames := [], weight := 0, answer := some false }) := by
        by_cases h1 : ln text st = true
        · have e1 := step1a text st st o sn
          rw [if_pos h1] at e1
          have e2 := step1b text st st o ((sn.add 6).add 44)
          have e2' : ({ at1 text st st o ((sn.add 6).add 44) with pc := 7 } : M).step = { at1 text st st o (((sn.add 6).add 44).add 16) with pc := 7, answer := some false } := by
            rw [e2]
            by_cases h2 : st ≥ text.size
            · rw [if_pos h2]
            · rw [if_neg h2]
              have : (text.getD st 0 == 46) = false := by
                cases q : (text.getD st 0 == 46) with
                | false => rfl
                | true => exact absurd (by unfold hit1; rw [h1, decide_eq_true (Nat.lt_of_not_ge h2), q]; rfl) hh
              rw [this]
          exact ⟨3, _, by omega, by omega, by rw [run_step 2 rfl, e1, run_step 1 rfl, e2', run_step 0 rfl, step1f]; rfl⟩
        · have e1 := step1a text st st o sn
          rw [if_neg h1] at e1
          exact ⟨2, _, by omega, by omega, by rw [run_step 1 rfl, e1, run_step 0 rfl]; exact (step1f text st st 5 o _)⟩
      obtain ⟨j, sn', hj, hj0, hgo⟩ := go
      rw [find1, if_neg hh]
      by_cases h2 : st < text.size
      · rw [if_pos h2] at hgo
        obtain ⟨k, hk, x⟩ := ih (st + 1) (st + 1) false sn' h2 (by omega) rfl
        exact ⟨j + k, by omega, x.more hgo⟩
      · rw [if_neg h2] at hgo
        have hn : n = 0 := by omega
        subst hn
        refine ⟨j + 1, by omega, Ends.more hgo ?_⟩
        show (M.runFor 1 _).outcome = _
        rw [run_step 0 rfl]
        exact congrArg M.outcome (step1e text st st o false st sn')
theorem next1 (text : Array Nat) (s : Nat) : ∃ k, k ≤ 5 * (text.size + 1) ∧ Ends (Sre.forSearch code1 text 0 s text.size false) ((find1 text (text.size + 1 - s) s).map fun q => (q, q + 1)) k := by
  by_cases h : s < text.size
  · rw [start1 text s h]
    obtain ⟨k, hk, x⟩ := search1 text _ s s true _ (Nat.le_of_lt h) rfl rfl
    exact ⟨k, by omega, x⟩
  · obtain ⟨m, e, hm⟩ := start1_end text s h
    have : find1 text (text.size + 1 - s) s = none := by
      cases q : text.size + 1 - s with
      | zero => rfl
      | succ n =>
        have hn : n = 0 := by omega
        subst hn
        rw [find1, if_neg (by unfold hit1; rw [decide_eq_false h]; simp)]; rfl
    rw [this, e]
    exact ⟨1, by omega, hm⟩
end Mine
end
section
open PySem PySem.W PySem.Calls PyProof.Rows PySem.Builtin
set_option Elab.async false
set_option linter.unusedVariables false
set_option maxRecDepth 20000
namespace Mine
open PySem.Sre (M)

noncomputable abbrev fN (q : Nat) (o : Bool) : Sre.Frame := { wait := .nextStart, pc := 10, pos := q, outermost := o }
noncomputable abbrev fB (p q : Nat) (o : Bool) : Sre.Frame := { wait := .nextBranch, pc := p, pos := q, outermost := o }
/-- the machine within an attempt at q -/
noncomputable abbrev at2 (text : Array Nat) (q pc pos hd : Nat) (out : Bool) (fr : List Sre.Frame) (w : Nat) (ans : Option Bool) (sn : Sre.Seen) : M :=
  { code := code2, text, lim := text.size, start := q, lastStart := text.size, pc, pos, handed := hd, outermost := out, marks := #[], frames := fr, weight := w, answer := ans, seen := sn }

section
variable (text : Array Nat) (q pos hd w p : Nat) (o out b : Bool) (fr : List Sre.Frame) (sn : Sre.Seen)
/-- a letter -/
noncomputable def lit (text : Array Nat) (pos c : Nat) : Bool := decide (pos < text.size) && text.getD pos 0 == c
theorem l12 : (at2 text q 12 pos hd out fr w none sn).step = if pos ≥ text.size then at2 text q 12 pos hd out fr w (some false) (sn.add 16) else
    match text.getD pos 0 == 13 with | false => at2 text q 12 pos hd out fr w (some false) (sn.add 16) | true => at2 text q 14 (pos + 1) hd out fr w none (sn.add 16) := by kernel_rfl
theorem l14 : (at2 text q 14 pos hd out fr w none sn).step = if pos ≥ text.size then at2 text q 14 pos hd out fr w (some false) (sn.add 16) else
    match text.getD pos 0 == 10 with | false => at2 text q 14 pos hd out fr w (some false) (sn.add 16) | true => at2 text q 16 (pos + 1) hd out fr w none (sn.add 16) := by kernel_rfl
theorem l19 : (at2 text q 19 pos hd out fr w none sn).step = if pos ≥ text.size then at2 text q 19 pos hd out fr w (some false) (sn.add 16) else
    match text.getD pos 0 == 10 with | false => at2 text q 19 pos hd out fr w (some false) (sn.add 16) | true => at2 text q 21 (pos + 1) hd out fr w none (sn.add 16) := by kernel_rfl
theorem l24 : (at2 text q 24 pos hd out fr w none sn).step = if pos ≥ text.size then at2 text q 24 pos hd out fr w (some false) (sn.add 16) else
    match text.getD pos 0 == 13 with | false => at2 text q 24 pos hd out fr w (some false) (sn.add 16) | true => at2 text q 26 (pos + 1) hd out fr w none (sn.add 16) := by kernel_rfl
theorem l29 : (at2 text q 29 pos hd out fr w none sn).step = if pos ≥ text.size then at2 text q 29 pos hd out fr w (some false) (sn.add 16) else
    match text.getD pos 0 == 10 with | false => at2 text q 29 pos hd out fr w (some false) (sn.add 16) | true => at2 text q 31 (pos + 1) hd out fr w none (sn.add 16) := by kernel_rfl
theorem j16 : (at2 text q 16 pos hd out fr w none sn).step = at2 text q 35 pos hd out fr w none (sn.add 15) := by kernel_rfl
theorem j21 : (at2 text q 21 pos hd out fr w none sn).step = at2 text q 35 pos hd out fr w none (sn.add 15) := by kernel_rfl
theorem j32 : (at2 text q 32 pos hd out fr w none sn).step = at2 text q 35 pos hd out fr w none (sn.add 15) := by kernel_rfl
theorem s35 : (at2 text q 35 pos hd out fr w none sn).step = at2 text q 35 pos pos out fr w (some true) (sn.add 1) := by cases out <;> kernel_rfl
theorem b10 : (at2 text q 10 pos hd out [fN q o] 1 none sn).step = at2 text q 12 pos pos out [fB 11 pos out, fN q o] 2 none (sn.add 7) := by kernel_rfl

variable (pp : Nat)
theorem r11 : (at2 text q p pp hd b [fB 11 pos out, fN q o] 2 (some false) sn).step = at2 text q 19 pos pos out [fB 18 pos out, fN q o] 2 none sn := by kernel_rfl
theorem r18 : (at2 text q p pp hd b [fB 18 pos out, fN q o] 2 (some false) sn).step = at2 text q 24 pos pos out [fB 23 pos out, fN q o] 2 none sn := by kernel_rfl
theorem a26 : (at2 text q 26 pos hd out [fB 23 pp out, fN q o] 2 none sn).step = at2 text q 29 pos pos false [{ wait := .lookNot, pc := 26, pos := pos, outermost := out }, fB 23 pp out, fN q o] 3 none (sn.add 5) := by kernel_rfl
theorem r26 (u : Nat) : (at2 text q p u hd b [{ wait := .lookNot, pc := 26, pos := pos, outermost := out }, fB 23 pp out, fN q o] 3 (some false) sn).step = at2 text q 32 pos hd out [fB 23 pp out, fN q o] 2 none sn := by kernel_rfl
theorem yB (u v : Nat) : (at2 text q p u hd b [fB v pp out, fN q o] 2 (some true) sn).step = at2 text q v pp hd out [fN q o] 1 (some true) sn := by kernel_rfl
theorem yN (u : Nat) : (at2 text q p u hd b [fN q o] 1 (some true) sn).step = at2 text q 10 q hd o [] 0 (some true) sn := by kernel_rfl
theorem yE : (at2 text q 10 q hd o [] 0 (some true) sn).step = { at2 text q 10 q hd o [] 0 (some true) sn with outcome := some .matched } := by kernel_rfl
end

theorem fin2 (text : Array Nat) (q v pp pos hd : Nat) (o out : Bool) (sn : Sre.Seen) : Ends (at2 text q 35 pos hd out [fB v pp out, fN q o] 2 none sn) (some (q, pos)) 4 := by
  have : M.runFor 4 (at2 text q 35 pos hd out [fB v pp out, fN q o] 2 none sn) = { at2 text q 10 q pos o [] 0 (some true) (sn.add 1) with outcome := some .matched } := by
    rw [run_step 3 rfl, s35, run_step 2 rfl, yB, run_step 1 rfl, yN, run_step 0 rfl, yE]; rfl
  exact ⟨by rw [this], by rw [this], by rw [this]⟩

/-- how many letters the match at q takes -/
noncomputable def wide2 (text : Array Nat) (q : Nat) : Nat := if text.getD q 0 == 13 && lit text (q + 1) 10 then q + 2 else q + 1
theorem get_of {text : Array Nat} {q c : Nat} (h : (text.getD q 0 == c) = true) (d : Nat) (hd : c ≠ d) : (text.getD q 0 == d) = false := by
  rw [beq_iff_eq] at h; rw [h]; simp [hd]
theorem match2 (text : Array Nat) (q : Nat) (o : Bool) (sn : Sre.Seen) (hq : q < text.size) (hc : text.getD q 0 = 10 ∨ text.getD q 0 = 13) :
    ∃ k, k ≤ 20 ∧ Ends (at2 text q 10 q q o [fN q o] 1 none sn) (some (q, wide2 text q)) k := by
  have hn : ¬ q ≥ text.size := by omega
  have e0 : M.runFor 1 (at2 text q 10 q q o [fN q o] 1 none sn) = at2 text q 12 q q o [fB 11 q o, fN q o] 2 none (sn.add 7) := by rw [run_step 0 rfl, b10]; rfl
  rcases hc with hc | hc
  · -- a feed
    have h13 : (text.getD q 0 == 13) = false := by rw [hc]; rfl
    have h10 : (text.getD q 0 == 10) = true := by rw [hc]; rfl
    have hw : wide2 text q = q + 1 := by unfold wide2; rw [h13]; rfl
    have e1 := l12 text q q q 2 o [fB 11 q o, fN q o] (sn.add 7)
    rw [if_neg hn, h13] at e1
    have e2 : M.runFor 4 (at2 text q 12 q q o [fB 11 q o, fN q o] 2 none (sn.add 7)) = at2 text q 35 (q + 1) q o [fB 18 q o, fN q o] 2 none ((((sn.add 7).add 16).add 16).add 15) := by
      have e3 := l19 text q q q 2 o [fB 18 q o, fN q o] ((sn.add 7).add 16)
      rw [if_neg hn, h10] at e3
      rw [run_step 3 rfl, e1, run_step 2 rfl, r11, run_step 1 rfl, e3, run_step 0 rfl, j21]; rfl
    rw [hw]
    exact ⟨1 + (4 + 4), by omega, Ends.more e0 (Ends.more e2 (fin2 text q _ _ _ _ o o _))⟩
  · have h13 : (text.getD q 0 == 13) = true := by rw [hc]; rfl
    have h10 : (text.getD q 0 == 10) = false := by rw [hc]; rfl
    have e1 := l12 text q q q 2 o [fB 11 q o, fN q o] (sn.add 7)
    rw [if_neg hn, h13] at e1
    by_cases hl : lit text (q + 1) 10 = true
    · have hw : wide2 text q = q + 2 := by unfold wide2; rw [h13, hl]; rfl
      unfold lit at hl
      simp only [Bool.and_eq_true, decide_eq_true_eq] at hl
      have e2 := l14 text q (q + 1) q 2 o [fB 11 q o, fN q o] ((sn.add 7).add 16)
      rw [if_neg (by omega), hl.2] at e2
      have e3 : M.runFor 3 (at2 text q 12 q q o [fB 11 q o, fN q o] 2 none (sn.add 7)) = at2 text q 35 (q + 2) q o [fB 11 q o, fN q o] 2 none ((((sn.add 7).add 16).add 16).add 15) := by
        rw [run_step 2 rfl, e1, run_step 1 rfl, e2, run_step 0 rfl, j16]; rfl
      rw [hw]
      exact ⟨1 + (3 + 4), by omega, Ends.more e0 (Ends.more e3 (fin2 text q _ _ _ _ o o _))⟩
    · have hw : wide2 text q = q + 1 := by unfold wide2; rw [h13, Bool.eq_false_iff.mpr hl]; rfl
      have no : ∀ {X Y : M}, (if q + 1 ≥ text.size then X else match text.getD (q + 1) 0 == 10 with | false => X | true => Y) = X := fun {X Y} => by
        by_cases h2 : q + 1 ≥ text.size
        · rw [if_pos h2]
        · rw [if_neg h2]
          have : (text.getD (q + 1) 0 == 10) = false := by
            cases z : (text.getD (q + 1) 0 == 10) with
            | false => rfl
            | true => exact absurd (by unfold lit; rw [decide_eq_true (Nat.lt_of_not_ge h2), z]; rfl) hl
          rw [this]
      have e2 := l14 text q (q + 1) q 2 o [fB 11 q o, fN q o] ((sn.add 7).add 16)
      rw [no] at e2
      have e3 := l19 text q q q 2 o [fB 18 q o, fN q o] (((sn.add 7).add 16).add 16)
      rw [if_neg hn, h10] at e3
      have e4 := l24 text q q q 2 o [fB 23 q o, fN q o] ((((sn.add 7).add 16).add 16).add 16)
      rw [if_neg hn, h13] at e4
      have e5 := l29 text q (q + 1) (q + 1) 3 false [{ wait := .lookNot, pc := 26, pos := q + 1, outermost := o }, fB 23 q o, fN q o] ((((((sn.add 7).add 16).add 16).add 16).add 16).add 5)
      rw [no] at e5
      have e6 : ∃ sn', M.runFor 10 (at2 text q 12 q q o [fB 11 q o, fN q o] 2 none (sn.add 7)) = at2 text q 35 (q + 1) (q + 1) o [fB 23 q o, fN q o] 2 none sn' := by
        refine ⟨((((((((sn.add 7).add 16).add 16).add 16).add 16).add 5).add 16).add 15), ?_⟩
        rw [run_step 9 rfl, e1, run_step 8 rfl, e2, run_step 7 rfl, r11, run_step 6 rfl, e3, run_step 5 rfl, r18, run_step 4 rfl, e4, run_step 3 rfl, a26, run_step 2 rfl, e5, run_step 1 rfl, r26, run_step 0 rfl, j32]; rfl
      obtain ⟨sn', e6⟩ := e6
      rw [hw]
      exact ⟨1 + (10 + 4), by omega, Ends.more e0 (Ends.more e6 (fin2 text q _ _ _ _ o o _))⟩

/-- the first new line from s on -/
noncomputable def hit2 (text : Array Nat) (s : Nat) : Bool := decide (s < text.size) && (text.getD s 0 == 10 || text.getD s 0 == 13)
noncomputable def find2 (text : Array Nat) : Nat → Nat → Option Nat
  | 0, _ => none
  | n + 1, s => if hit2 text s = true then some s else find2 text n (s + 1)
theorem set2 (c : Nat) (sn : Sre.Seen) : ∃ sn', Sre.inSet code2 c code2.size 5 true sn = .ok (c == 10 || c == 13, sn') := by
  have e : Sre.inSet code2 c 36 5 true sn = if (c == 10) = true then .ok (true, sn.add 16) else if (c == 13) = true then .ok (true, (sn.add 16).add 16) else .ok (false, ((sn.add 16).add 16).add 0) := by kernel_rfl
  rw [show code2.size = 36 from rfl, e]
  cases h : (c == 10)
  · cases h2 : (c == 13)
    · exact ⟨_, rfl⟩
    · exact ⟨_, rfl⟩
  · exact ⟨_, rfl⟩
theorem adm2 (text : Array Nat) (m : M) (h1 : m.code = code2) (h2 : m.text = text) (h3 : m.lim = text.size) : ∀ (n s : Nat) (sn : Sre.Seen), ∃ sn', M.admitted m n s sn = .ok (find2 text n s, sn') := by
  intro n
  induction n with
  | zero => intro s sn; exact ⟨sn, rfl⟩
  | succ n ih =>
    intro s sn
    rw [M.admitted, h1, h2, h3, find2]
    by_cases hs : s ≥ text.size
    · rw [if_pos hs, if_neg (by unfold hit2; rw [decide_eq_false (by omega)]; simp)]
      have : ∀ n s, s ≥ text.size → find2 text n s = none := by
        intro n
        induction n with
        | zero => intro s _; rfl
        | succ n ih => intro s h; rw [find2, if_neg (by unfold hit2; rw [decide_eq_false (by omega)]; simp)]; exact ih _ (by omega)
      rw [this n (s + 1) (by omega)]
      exact ⟨sn, rfl⟩
    · rw [if_neg hs]
      obtain ⟨sn', e⟩ := set2 (text.getD s 0) sn
      rw [e]
      have hh : hit2 text s = (text.getD s 0 == 10 || text.getD s 0 == 13) := by unfold hit2; rw [decide_eq_true (by omega)]; rfl
      rw [hh]
      cases q : (text.getD s 0 == 10 || text.getD s 0 == 13)
      · exact ih (s + 1) sn'
      · exact ⟨sn', rfl⟩
theorem find2_some {text : Array Nat} : ∀ {n s q : Nat}, find2 text n s = some q → hit2 text q = true
  | n + 1, s, q, h => by
    rw [find2] at h
    split at h
    · rename_i hh; cases h; exact hh
    · exact find2_some h
theorem next2 (text : Array Nat) (s : Nat) : ∃ k, k ≤ 21 ∧ Ends (Sre.forSearch code2 text 0 s text.size false) ((find2 text (text.size + 1 - s) s).map fun q => (q, wide2 text q)) k := by
  by_cases h : s < text.size
  · have h1 : ¬ s > text.size := by omega
    have h2 : ¬ text.size - s < 1 := by omega
    let m0 : M := { code := code2, text, lim := text.size, start := s, lastStart := text.size, pc := 10, pos := s, handed := s, marks := #[], seen := ({} : Sre.Seen).add 14 }
    have e : Sre.forSearch code2 text 0 s text.size false = M.attemptFrom m0 s true := by
      show (if (decide (s > text.size) || decide (text.size - s < 1)) = true then _ else _) = _
      rw [decide_eq_false h1, decide_eq_false h2]
      rfl
    have e2 : M.attemptFrom m0 s true = match M.admitted m0 (text.size + 1 - s) s (({} : Sre.Seen).add 14) with
        | .ok (some q, sn) => at2 text q 10 q q true [fN q true] 1 none sn
        | .ok (none, sn) => { m0 with seen := sn, answer := some false }
        | .error why => m0.stick why := by kernel_rfl
    obtain ⟨sn', e3⟩ := adm2 text m0 rfl rfl rfl (text.size + 1 - s) s (({} : Sre.Seen).add 14)
    rw [e, e2, e3]
    cases hf : find2 text (text.size + 1 - s) s with
    | none => exact ⟨1, by omega, rfl⟩
    | some q =>
      have hh := find2_some hf
      unfold hit2 at hh
      simp only [Bool.and_eq_true, decide_eq_true_eq, Bool.or_eq_true, beq_iff_eq] at hh
      obtain ⟨k, hk, x⟩ := match2 text q true sn' hh.1 hh.2
      exact ⟨k, by omega, x⟩
  · have : find2 text (text.size + 1 - s) s = none := by
      cases q : text.size + 1 - s with
      | zero => rfl
      | succ n =>
        have hn : n = 0 := by omega
        subst hn
        rw [find2, if_neg (by unfold hit2; rw [decide_eq_false h]; simp)]; rfl
    rw [this]
    refine ⟨1, by omega, ?_⟩
    have h2 : (decide (s > text.size) || decide (text.size - s < 1)) = true := by
      rw [Bool.or_eq_true, decide_eq_true_iff, decide_eq_true_iff]; omega
    show (M.runFor 1 (if (decide (s > text.size) || decide (text.size - s < 1)) = true then _ else _)).outcome = _
    rw [h2]
    rfl
end Mine
end
section
open PySem PySem.W PySem.Calls PyProof.Rows PySem.Builtin PySem.Builtin.Re
set_option Elab.async false
set_option linter.unusedVariables false
set_option maxRecDepth 100000
namespace Mine
open PySem.Sre (M)

theorem slot_sub : Slot "re.Pattern" "sub" "re.Pattern.sub" :=
  .of (owner := "re.Pattern") (n := "sub") (by rw [typeLookup_type, builtinLookup_eq_fast]; kernel_rfl) (by decide +kernel) (by decide +kernel) (by decide +kernel)
    (by first | exact .inl (by decide +kernel) | exact .inr (by decide +kernel)) (by rw [isSubtype_type]; kernel_rfl)
theorem type_sub : typeOf (.builtin "re.Pattern.sub") = pure (.type "method_descriptor") := by show builtinType _ = _; rw [builtinType_eq_fast]; kernel_rfl
theorem entry_sub : entryFor table "re.Pattern.sub" = some Builtin.«re.Pattern.sub» := entryFor_of_tree (by kernel_rfl)
theorem entry_loop : entryFor table "re.Pattern.sub.loop" = some Builtin.«re.Pattern.sub.loop» := entryFor_of_tree (by kernel_rfl)
theorem args_sub (a b c : Value) : argsOk "re.Pattern.sub" ⟨[a, b, c], []⟩ := by unfold argsOk; kernel_rfl
theorem plain_re : PlainAttrs "re.Pattern" := ⟨⟨"object.__getattribute__", by rw [typeLookup_type, builtinLookup_eq_fast]; kernel_rfl, by decide +kernel⟩, by rw [typeLookup_type, builtinLookup_eq_fast]; kernel_rfl⟩

/-- a pattern that stands in the heap -/
structure Pat (h : Heap) (p : Addr) (code : Array Nat) : Prop where
  ex : ∃ (o : Obj) (fs : Array Value) (T : Addr) (oT : Obj) (its : Array Value) (n : Nat), h.get? p = some o ∧ o.cls = .type "re.Pattern" ∧ o.dict = none ∧ o.data = .fields fs ∧ fs.getD 6 .none = rawInt 0 ∧ fs.getD 5 .none = .ref T ∧ fs.getD 2 .none = rawInt 0 ∧
    h.get? T = some oT ∧ oT.cls = .type "tuple" ∧ oT.data = .seq its n ∧ (its.map reRawOf).map (·.toNat) = code
theorem Pat.keeps {h h' : Heap} {p : Addr} {code : Array Nat} (P : Pat h p code) (k : ∀ b o, h.get? b = some o → h'.get? b = some o) : Pat h' p code := by
  obtain ⟨o, fs, T, oT, its, n, h1, h2, h3, h4, h5, h6, h7, h8, hc, h9, h10⟩ := P.ex
  exact ⟨o, fs, T, oT, its, n, k _ _ h1, h2, h3, h4, h5, h6, h7, k _ _ h8, hc, h9, h10⟩

section
variable {prog : Program} {w : World} {A : Around} {E : Value → Shared → Prop} {s : Shared} {p : Addr} {code : Array Nat} {X : Str} {t : Tok}

theorem drive {m' : M} {Q : M → Shared → Prop} (h : Q m' s) : ∀ (n k : Nat) (m : M), M.runFor k m = m' → m'.outcome.isSome = true → k ≤ 4 * n → 0 < n → wpAny (model prog w) A (reDrive n m) Q E s := by
  intro n
  induction n with
  | zero => intro k m _ _ _ h0; omega
  | succ n ih =>
    intro k m e ho hk _
    show wpAny _ _ (if (M.runFor 4 m).outcome.isSome = true then pure (M.runFor 4 m) else (do rule "sre.turn"; reDrive n (M.runFor 4 m))) _ _ _
    have key : (M.runFor 4 m).outcome.isSome = true → M.runFor 4 m = m' := fun hs => by
      by_cases h4 : k ≤ 4
      · have : M.runFor 4 m = M.runFor (4 - k) m' := by
          rw [← e, ← run_add]; congr 1; omega
        rw [this, run_done _ ho]
      · have : m' = M.runFor (k - 4) (M.runFor 4 m) := by rw [← run_add, ← e]; congr 1; omega
        rw [this, run_done _ hs]
    by_cases hs : (M.runFor 4 m).outcome.isSome = true
    · rw [if_pos hs, key hs]; exact wpAny_pure h
    · rw [if_neg hs]
      refine wpAny_bind (wpAny_rule ?_)
      have h4 : 4 < k := by
        by_cases h4 : k ≤ 4
        · exfalso
          have : M.runFor 4 m = M.runFor (4 - k) m' := by rw [← e, ← run_add]; congr 1; omega
          rw [this, run_done _ ho] at hs
          exact hs ho
        · omega
      exact ih (k - 4) (M.runFor 4 m) (by rw [← run_add, ← e]; congr 1; omega) ho (by omega) (by omega)
theorem says (m : M) : ∀ (l : List Nat) (Q : PUnit → Shared → Prop), Q ⟨⟩ s → wpAny (model prog w) A (forIn l PUnit.unit fun i r => if m.seen.has i = true then (do rule (Sre.names.getD i ""); pure (ForInStep.yield PUnit.unit)) else pure (ForInStep.yield PUnit.unit)) Q E s
  | [], Q, h => by rw [List.forIn_nil]; exact wpAny_pure h
  | i :: l, Q, h => by
    rw [List.forIn_cons]
    refine wpAny_bind ?_
    by_cases hh : m.seen.has i = true
    · rw [if_pos hh]; exact wpAny_bind (wpAny_rule (wpAny_pure (says m l Q h)))
    · rw [if_neg hh]; exact wpAny_pure (says m l Q h)
theorem run_end {m : M} {a : Option (Nat × Nat)} {k : Nat} {Q : Option M → Shared → Prop} (x : Ends m a k) (hk : k ≤ 2 ^ 60)
    (h : match a with | some p => ∀ m', m'.start = p.1 → m'.handed = p.2 → Q (some m') s | none => Q none s) : wpAny (model prog w) A (reRunToEnd m) Q E s := by
  unfold reRunToEnd
  refine wpAny_bind (drive (m' := M.runFor k m) ?_ (2 ^ 64) k m rfl ?_ (by omega) (by omega))
  · refine wpAny_bind ?_
    refine wpAny_mono (says (M.runFor k m) _ (fun _ s' => s' = s) rfl) (fun _ s' e => ?_) fun _ _ q => q
    subst e
    cases a with
    | none => rw [show (M.runFor k m).outcome = _ from x]; exact wpAny_pure h
    | some p => rw [x.1]; exact wpAny_pure (h _ x.2.1 x.2.2)
  · cases a with
    | none => rw [show (M.runFor k m).outcome = _ from x]; rfl
    | some p => rw [x.1]; rfl

theorem whole {Q : ReTarget → Shared → Prop} (P : Pat s.heap p code) (h : Q ⟨.ref p, .str X t, code, X.cps, 0, 0, 0, X.cps.size⟩ s) : wpAny (model prog w) A (reWholeTarget (.ref p) (.str X t)) Q E s := by
  obtain ⟨o, fs, T, oT, its, n, h1, h2, h3, h4, h5, h6, h7, h8, hc, h9, h10⟩ := P.ex
  unfold reWholeTarget
  refine wpAny_bind ?_
  unfold fieldsOf
  refine wpAny_bind (wpAny_load h1 ?_)
  rw [h4]
  refine wpAny_pure ?_
  rw [h5, h6, h7]
  refine wpAny_bind (wpAny_pure ?_)
  show wpAny _ _ (reRawItems (.ref T) >>= _) _ _ _
  unfold reRawItems
  refine wpAny_bind (wpAny_bind (wpAny_seqItems h8 h9 (wpAny_pure ?_)))
  refine wpAny_pure ?_
  show Q ⟨.ref p, .str X t, (its.map reRawOf).map (·.toNat), X.cps, 0, 0, 0, X.cps.size⟩ s
  rw [h10]; exact h
end
end Mine
end
section
open PySem PySem.W PySem.Calls PyProof.Rows PySem.Builtin PySem.Builtin.Re
set_option Elab.async false
set_option linter.unusedVariables false
set_option maxRecDepth 100000
namespace Mine
open PySem.Sre (M)

noncomputable def piece (X : Str) (b e : Nat) : Str := ⟨X.cps.extract b e⟩
/-- the pieces that are still to come behind d -/
noncomputable def subRest (X r : Str) (nxt : Nat → Option (Nat × Nat)) : Nat → Nat → List Str
  | 0, _ => []
  | n + 1, d => match nxt d with
    | some p => (if d < p.1 then [piece X d p.1] else []) ++ r :: subRest X r nxt n p.2
    | none => if d < X.cps.size then [piece X d X.cps.size] else []

/-- what is asked of a search -/
structure Nxt (code : Array Nat) (X : Str) (nxt : Nat → Option (Nat × Nat)) : Prop where
  runs : ∀ s, ∃ k, k ≤ 2 ^ 60 ∧ Ends (Sre.forSearch code X.cps 0 s X.cps.size false) (nxt s) k
  step : ∀ s p, nxt s = some p → s ≤ p.1 ∧ p.1 < p.2 ∧ p.2 ≤ X.cps.size

section
variable {prog : Program} {w : World} {A : Around} {E : Value → Shared → Prop} {s : Shared} {p : Addr} {code : Array Nat} {X r : Str} {t u : Tok} {nxt : Nat → Option (Nat × Nat)}

theorem push_ok {l : Addr} {its : Array Value} {v : Value} {Q : Unit → Shared → Prop} (hl : s.heap.PlainList l its) (hz : its.size ≤ 20000)
    (h : ∀ h', h'.PlainList l (its.push v) → (∀ b o, b ≠ l → s.heap.get? b = some o → h'.get? b = some o) → Q () { s with heap := h' }) : wpAny (model prog w) A (updateSeq l (·.push v)) Q E s := by
  obtain ⟨n, ho⟩ := hl
  refine wpAny_updateSeq ho rfl (h _ ⟨n + 1, ?_⟩ (Heap.SameBut.update ..).extBut) (Nat.le_trans hz (by decide)) (by rw [Array.size_push]; exact Nat.succ_le_succ (Nat.le_trans hz (by decide)))
  rw [Heap.get?_update_self _ ho (by rw [Obj.mapSeq_push_plain]; rfl), Obj.mapSeq_push_plain]
theorem slice_ok {b e : Nat} {Q : Value → Shared → Prop} (hX : X.cps.size ≤ 10000) (h : Q (.str (piece X b e) s.toks) { s with toks := s.toks + 1 }) : wpAny (model prog w) A (reSlice X.cps 0 b e) Q E s := by
  show wpAny _ _ (mkStr (piece X b e)) _ _ _
  refine wpAny_mkStr h (Nat.le_trans ?_ (Nat.le_trans hX (by decide)))
  show (X.cps.extract b e).size ≤ _
  rw [Array.size_extract]; omega
theorem strs_push (vs : List (Str × Tok)) (x : Str) (t : Tok) : (strValues vs).toArray.push (.str x t) = (strValues (vs ++ [(x, t)])).toArray := by simp [strValues]
theorem strs_size (vs : List (Str × Tok)) : (strValues vs).toArray.size = vs.length := by simp [strValues]

theorem loop_ok (N : Nxt code X nxt) (hX : X.cps.size ≤ 4096) {R : Result → Shared → Prop} : ∀ (n d : Nat) (c : Int) (l : Addr) (vs : List (Str × Tok)) (s : Shared), X.cps.size + 1 - d ≤ n → d ≤ X.cps.size → Pat s.heap p code → s.heap.PlainList l (strValues vs).toArray → vs.length + 2 * n ≤ 10000 →
    (∀ l' : List Str, l' = vs.map (·.1) ++ subRest X r nxt n d → JoinOk ⟨#[]⟩ l' = true) →
    (∀ h' tk t', (∀ b o, b ≠ l → s.heap.get? b = some o → h'.get? b = some o) → R (.ok (.ret (.str (Txt.join ⟨#[]⟩ (vs.map (·.1) ++ subRest X r nxt n d)) t'))) { s with heap := h', toks := tk }) →
    codeAny (model prog w) A (.builtin "re.Pattern.sub.loop" ⟨[.ref p, .str X t, .str r u, rawInt 0, rawInt 0, rawInt c, rawInt d, rawInt d, .bool false, .ref l, .bool false], []⟩) R s := by
  intro n
  induction n with
  | zero => intro d c l vs s e hd; omega
  | succ n ih =>
    intro d c l vs s e hd P hl hlen hj hR
    refine codeAny_builtin entry_loop ?_
    show wpAny _ _ (reWholeTarget (.ref p) (.str X t) >>= _) _ _ _
    refine wpAny_bind (whole P ?_)
    refine wpAny_bind (wpAny_bind (wpAny_pure ?_))
    refine wpAny_pure ?_
    show wpAny _ _ (reRunToEnd (Sre.forSearch code X.cps 0 d X.cps.size false) >>= _) _ _ _
    obtain ⟨k, hk, x⟩ := N.runs d
    refine wpAny_bind (run_end x hk ?_)
    cases hn : nxt d with
    | none =>
      have hrest : subRest X r nxt (n + 1) d = if d < X.cps.size then [piece X d X.cps.size] else [] := by rw [subRest, hn]
      show wpAny _ _ ((if (d : Int).toNat < X.cps.size then _ else _) : Sem _) _ _ _
      have fin : ∀ (vs' : List (Str × Tok)) (s' : Shared), s'.heap.PlainList l (strValues vs').toArray → vs'.map (·.1) = vs.map (·.1) ++ subRest X r nxt (n + 1) d → (∃ h' tk, s' = { s with heap := h', toks := tk } ∧ ∀ b o, b ≠ l → s.heap.get? b = some o → h'.get? b = some o) →
          wpAny (model prog w) (A.under (.builtin "re.Pattern.sub.loop" ⟨[.ref p, .str X t, .str r u, rawInt 0, rawInt 0, rawInt c, rawInt d, rawInt d, .bool false, .ref l, .bool false], []⟩)) (do
            let joiner ← reSlice X.cps 0 0 0
            let text ← if ((← seqItems? (.ref l)).getD #[]).isEmpty then pure joiner else call (.builtin "str.join") [joiner, .ref l]
            ret text) (fun fin s' => match fin with | .done f => R (.ok f) s' | .again c' => c'.quiet = true ∧ codeAny (model prog w) A c' R s') (fun e s' => R (.error e) s') s' := by
        intro vs' s' hl' hvs hs'
        obtain ⟨h', tk, rfl, hk'⟩ := hs'
        refine wpAny_bind (slice_ok (Nat.le_trans hX (by decide)) ?_)
        have hemp : piece X 0 0 = ⟨#[]⟩ := by unfold piece; simp
        rw [hemp]
        obtain ⟨o, ho, hc, nn, hd'⟩ := hl'.isList
        refine wpAny_bind (wpAny_seqItems (s := { s with heap := h', toks := tk + 1 }) ho hd' ?_)
        show wpAny _ _ (if (strValues vs').toArray.isEmpty = true then _ else _) _ _ _
        by_cases hv : (strValues vs').toArray.isEmpty = true
        · rw [if_pos hv]
          refine wpAny_bind (wpAny_pure (wpAny_pure ?_))
          have hv0 : vs' = [] := by
            cases vs' with
            | nil => rfl
            | cons a b => simp [strValues] at hv
          have := hR h' (tk + 1) tk hk'
          rw [← hvs, hv0] at this
          exact this
        · rw [if_neg hv]
          refine wpAny_bind (SC.join (s := { s with heap := h', toks := tk + 1 }) hl'.isList rfl (hj _ hvs) fun t' k' => ?_)
          refine wpAny_pure ?_
          rw [hvs]
          exact hR h' k' t' hk'
      by_cases hlt : d < X.cps.size
      · rw [if_pos (by simpa using hlt)]
        rw [if_pos hlt] at hrest
        refine wpAny_bind (slice_ok (Nat.le_trans hX (by decide)) (wpAny_bind (push_ok (s := { s with toks := s.toks + 1 }) hl (by rw [strs_size]; omega) fun h' hl' hk' => ?_)))
        refine fin (vs ++ [(piece X d X.cps.size, s.toks)]) { s with heap := h', toks := s.toks + 1 } (by rw [← strs_push]; exact hl') (by rw [hrest]; simp) ⟨h', s.toks + 1, rfl, hk'⟩
      · rw [if_neg (by simpa using hlt)]
        rw [if_neg hlt] at hrest
        exact (fin vs s hl (by rw [hrest]; simp) ⟨s.heap, s.toks, rfl, fun _ _ _ e => e⟩)
    | some pq =>
      obtain ⟨q, e'⟩ := pq
      obtain ⟨hq1, hq2, hq3⟩ := N.step d _ hn
      simp only at hq1 hq2 hq3
      intro m' hm1 hm2
      simp only at hm1 hm2
      have hrest : subRest X r nxt (n + 1) d = (if d < q then [piece X d q] else []) ++ r :: subRest X r nxt n e' := by rw [subRest, hn]
      have again_ok : ∀ (vs' : List (Str × Tok)) (s' : Shared), s'.heap.PlainList l (strValues vs').toArray → vs'.length ≤ vs.length + 1 → vs'.map (·.1) = vs.map (·.1) ++ (if d < q then [piece X d q] else []) → (∃ h' tk, s' = { s with heap := h', toks := tk } ∧ ∀ b o, b ≠ l → s.heap.get? b = some o → h'.get? b = some o) →
          wpAny (model prog w) (A.under (.builtin "re.Pattern.sub.loop" ⟨[.ref p, .str X t, .str r u, rawInt 0, rawInt 0, rawInt c, rawInt d, rawInt d, .bool false, .ref l, .bool false], []⟩)) (do
            updateSeq l (·.push (.str r u))
            again (.builtin "re.Pattern.sub.loop" ⟨[.ref p, .str X t, .str r u, rawInt 0, rawInt 0, rawInt (c + 1), rawInt m'.handed, rawInt m'.handed, .bool (m'.handed == m'.start), .ref l, .bool false], []⟩))
            (fun fin s' => match fin with | .done f => R (.ok f) s' | .again c' => c'.quiet = true ∧ codeAny (model prog w) A c' R s') (fun e s' => R (.error e) s') s' := by
        intro vs' s' hl' hlen' hvs hs'
        obtain ⟨h', tk, rfl, hk'⟩ := hs'
        refine wpAny_bind (push_ok hl' (by rw [strs_size]; omega) fun h2 hl2 hk2 => wpAny_pure ⟨Code.quiet_builtin _ (by decide +kernel), ?_⟩)
        have hne : (e' == q) = false := by simp; omega
        rw [hm1, hm2, hne]
        have hP2 : Pat h2 p code := by
          obtain ⟨o, fs, T, oT, its, nn, g1, g2, g3, g4, g5, g6, g7, g8, gc, g9, g10⟩ := P.ex
          obtain ⟨nl, gl⟩ := hl
          have hpl : p ≠ l := fun hh => by rw [← hh, g1] at gl; cases gl; simp at g2
          have hTl : T ≠ l := fun hh => by rw [← hh, g8] at gl; cases gl; simp at gc
          exact ⟨o, fs, T, oT, its, nn, hk2 _ _ hpl (hk' _ _ hpl g1), g2, g3, g4, g5, g6, g7, hk2 _ _ hTl (hk' _ _ hTl g8), gc, g9, g10⟩
        have hcat : (vs' ++ [(r, u)]).map (·.1) ++ subRest X r nxt n e' = vs.map (·.1) ++ subRest X r nxt (n + 1) d := by
          rw [hrest, List.map_append, hvs]; simp
        refine ih e' (c + 1) l (vs' ++ [(r, u)]) { s with heap := h2, toks := tk } (by omega) hq3 hP2 (by rw [← strs_push]; exact hl2) (by rw [List.length_append, List.length_singleton]; omega) (fun l' e => hj l' (by rw [e, hcat])) fun h3 tk3 t3 k3 => ?_
        rw [hcat]
        exact hR h3 tk3 t3 fun b o hb eo => k3 b o hb (hk2 b o hb (hk' b o hb eo))
      by_cases hlt : d < q
      · show wpAny _ _ ((if (d : Int).toNat < m'.start then _ else _) : Sem _) _ _ _
        rw [if_pos (by rw [hm1]; simpa using hlt)]
        refine wpAny_bind (slice_ok (Nat.le_trans hX (by decide)) (wpAny_bind (push_ok (s := { s with toks := s.toks + 1 }) hl (by rw [strs_size]; omega) fun h' hl' hk' => ?_)))
        refine again_ok (vs ++ [(piece X d m'.start, s.toks)]) { s with heap := h', toks := s.toks + 1 } (by rw [← strs_push]; exact hl') (by simp) (by rw [if_pos hlt, hm1]; simp) ⟨h', s.toks + 1, rfl, hk'⟩
      · show wpAny _ _ ((if (d : Int).toNat < m'.start then _ else _) : Sem _) _ _ _
        rw [if_neg (by rw [hm1]; simpa using hlt)]
        exact again_ok vs s hl (by omega) (by rw [if_neg hlt]; simp) ⟨s.heap, s.toks, rfl, fun _ _ _ e => e⟩
end
end Mine
end
section
open PySem PySem.W PySem.Calls PyProof.Rows PySem.Builtin PySem.Builtin.Re PySem.Builtin.Str
set_option Elab.async false
set_option linter.unusedVariables false
namespace Mine

noncomputable def flat (l : List Str) : List Nat := l.flatMap fun x => x.cps.toList
theorem join_flat : ∀ l : List Str, (Str.join ⟨#[]⟩ l).cps.toList = flat l
  | [] => rfl
  | [x] => by simp [Str.join, flat]
  | x :: y :: r => by
    have e : Str.join ⟨#[]⟩ (x :: y :: r) = x ++ ⟨#[]⟩ ++ Str.join ⟨#[]⟩ (y :: r) := rfl
    have e2 : (x ++ ⟨#[]⟩ ++ Str.join ⟨#[]⟩ (y :: r)).cps = x.cps ++ #[] ++ (Str.join ⟨#[]⟩ (y :: r)).cps := rfl
    rw [e, e2, Array.toList_append, Array.toList_append, join_flat (y :: r)]
    simp [flat]
theorem glued_flat (l : List Str) : (Txt.join ⟨#[]⟩ l).cps.toList = flat l := by
  rw [← join_flat]
  exact congrArg (fun x : Str => x.cps.toList) (StrLaws.glued_eq_join ⟨#[]⟩ l)
theorem beqN (a b : Nat) : Nat.beq a b = (a == b) := by rw [Bool.eq_iff_iff]; simp
noncomputable def tot (l : List Str) : Nat := (l.map (·.length)).sum

section
variable (text : Array Nat) (r : List Nat)
theorem drop_lt {s : Nat} (h : s < text.size) : text.toList.drop s = text.getD s 0 :: text.toList.drop (s + 1) := by
  rw [List.drop_eq_getElem_cons (by simpa using h)]
  congr 1
  simp [Array.getD, h]
theorem ln_succ (s : Nat) : ln text (s + 1) = Nat.beq (text.getD s 0) 10 := by
  unfold ln
  have : (s + 1 == 0) = false := by simp
  rw [this, beqN]; rfl
theorem dot_none : ∀ (k s : Nat), text.size + 1 - s ≤ k → find1 text k s = none → dotq r (ln text s) (text.toList.drop s) = text.toList.drop s := by
  intro k
  induction k with
  | zero =>
    intro s h _
    rw [List.drop_eq_nil_of_le (by simp; omega)]; simp [dotq]
  | succ k ih =>
    intro s h e
    rw [find1] at e
    split at e
    · cases e
    · rename_i hh
      by_cases hs : s < text.size
      · rw [drop_lt text hs, dotq]
        have hc : (ln text s && Nat.beq (text.getD s 0) 46) = false := by
          unfold hit1 at hh
          rw [decide_eq_true hs, Bool.true_and] at hh
          rw [beqN]; exact Bool.eq_false_iff.mpr hh
        rw [hc, ← ln_succ, ih (s + 1) (by omega) e]; rfl
      · rw [List.drop_eq_nil_of_le (by simp; omega)]; simp [dotq]
theorem dot_some : ∀ (k s q : Nat), find1 text k s = some q → s ≤ q ∧ q < text.size ∧ dotq r (ln text s) (text.toList.drop s) = (text.toList.drop s).take (q - s) ++ r ++ dotq r (ln text (q + 1)) (text.toList.drop (q + 1)) := by
  intro k
  induction k with
  | zero => intro s q e; cases e
  | succ k ih =>
    intro s q e
    rw [find1] at e
    split at e
    · rename_i hh
      cases e
      unfold hit1 at hh
      simp only [Bool.and_eq_true, decide_eq_true_eq] at hh
      obtain ⟨h1, h2, h3⟩ := hh
      refine ⟨Nat.le_refl _, h2, ?_⟩
      rw [drop_lt text h2, dotq]
      have hc : (ln text s && Nat.beq (text.getD s 0) 46) = true := by rw [h1, beqN]; exact h3
      have h46 : text.getD s 0 = 46 := beq_iff_eq.mp h3
      rw [if_pos hc, Nat.sub_self, List.take_zero, List.nil_append, ln_succ, h46]; rfl
    · rename_i hh
      obtain ⟨h1, h2, h3⟩ := ih (s + 1) q e
      have hs : s < text.size := by omega
      refine ⟨by omega, h2, ?_⟩
      rw [drop_lt text hs, dotq]
      have hc : (ln text s && Nat.beq (text.getD s 0) 46) = false := by
        unfold hit1 at hh
        rw [decide_eq_true hs, Bool.true_and] at hh
        rw [beqN]; exact Bool.eq_false_iff.mpr hh
      rw [hc, ← ln_succ, h3]
      have : q - s = (q - (s + 1)) + 1 := by omega
      rw [this, List.take_succ_cons]; simp
theorem crlf_cons {c : Nat} (t : List Nat) (h1 : c ≠ 10) (h2 : c ≠ 13) : crlf r (c :: t) = c :: crlf r t := by
  rw [crlf.eq_def]
  split <;> simp_all
theorem nl_none : ∀ (k s : Nat), text.size + 1 - s ≤ k → find2 text k s = none → crlf r (text.toList.drop s) = text.toList.drop s := by
  intro k
  induction k with
  | zero =>
    intro s h _
    rw [List.drop_eq_nil_of_le (by simp; omega)]; simp [crlf]
  | succ k ih =>
    intro s h e
    rw [find2] at e
    split at e
    · cases e
    · rename_i hh
      by_cases hs : s < text.size
      · unfold hit2 at hh
        rw [decide_eq_true hs, Bool.true_and, Bool.or_eq_true, not_or, beq_iff_eq, beq_iff_eq] at hh
        rw [drop_lt text hs, crlf_cons r _ hh.1 hh.2, ih (s + 1) (by omega) e]
      · rw [List.drop_eq_nil_of_le (by simp; omega)]; simp [crlf]
theorem nl_some : ∀ (k s q : Nat), find2 text k s = some q → s ≤ q ∧ q < text.size ∧ crlf r (text.toList.drop s) = (text.toList.drop s).take (q - s) ++ r ++ crlf r (text.toList.drop (wide2 text q)) := by
  intro k
  induction k with
  | zero => intro s q e; cases e
  | succ k ih =>
    intro s q e
    rw [find2] at e
    split at e
    · rename_i hh
      cases e
      unfold hit2 at hh
      simp only [Bool.and_eq_true, Bool.or_eq_true, decide_eq_true_eq, beq_iff_eq] at hh
      obtain ⟨h2, h3⟩ := hh
      refine ⟨Nat.le_refl _, h2, ?_⟩
      rw [Nat.sub_self, List.take_zero, List.nil_append]
      rcases h3 with h3 | h3
      · have hw : wide2 text s = s + 1 := by unfold wide2; rw [h3]; rfl
        rw [hw, drop_lt text h2, h3]; simp [crlf]
      · by_cases hl : lit text (s + 1) 10 = true
        · have hw : wide2 text s = s + 2 := by unfold wide2; rw [h3, hl]; rfl
          unfold lit at hl
          simp only [Bool.and_eq_true, decide_eq_true_eq, beq_iff_eq] at hl
          rw [hw, drop_lt text h2, drop_lt text hl.1, h3, hl.2]; simp [crlf]
        · have hw : wide2 text s = s + 1 := by unfold wide2; rw [h3, Bool.eq_false_iff.mpr hl]; rfl
          rw [hw, drop_lt text h2, h3]
          by_cases h4 : s + 1 < text.size
          · have h5 : text.getD (s + 1) 0 ≠ 10 := fun z => hl (by unfold lit; rw [decide_eq_true h4, z]; rfl)
            rw [drop_lt text h4]
            generalize text.getD (s + 1) 0 = c at h5
            rw [crlf.eq_def]
            split <;> simp_all
          · rw [List.drop_eq_nil_of_le (i := s + 1) (by simp; omega)]; simp [crlf]
    · rename_i hh
      obtain ⟨h1, h2, h3⟩ := ih (s + 1) q e
      have hs : s < text.size := by omega
      refine ⟨by omega, h2, ?_⟩
      unfold hit2 at hh
      rw [decide_eq_true hs, Bool.true_and, Bool.or_eq_true, not_or, beq_iff_eq, beq_iff_eq] at hh
      rw [drop_lt text hs, crlf_cons r _ hh.1 hh.2, h3]
      have : q - s = (q - (s + 1)) + 1 := by omega
      rw [this, List.take_succ_cons]; simp
theorem wide2_le {q : Nat} (h : q < text.size) : q < wide2 text q ∧ wide2 text q ≤ text.size := by
  unfold wide2
  by_cases hh : (text.getD q 0 == 13 && lit text (q + 1) 10) = true
  · rw [if_pos hh]
    rw [Bool.and_eq_true] at hh
    have := hh.2
    unfold lit at this
    simp only [Bool.and_eq_true, decide_eq_true_eq] at this
    omega
  · rw [if_neg hh]; omega
end
end Mine
end
section
open PySem PySem.W PySem.Calls PyProof.Rows PySem.Builtin PySem.Builtin.Re PySem.Builtin.Str
set_option Elab.async false
set_option linter.unusedVariables false
set_option maxRecDepth 100000
namespace Mine

noncomputable def nxt1 (X : Str) (s : Nat) : Option (Nat × Nat) := (find1 X.cps (X.cps.size + 1 - s) s).map fun q => (q, q + 1)
noncomputable def nxt2 (X : Str) (s : Nat) : Option (Nat × Nat) := (find2 X.cps (X.cps.size + 1 - s) s).map fun q => (q, wide2 X.cps q)
theorem nxt1_ok (X : Str) (h : X.cps.size ≤ 4096) : Nxt code1 X (nxt1 X) := by
  refine ⟨fun s => ?_, fun s p e => ?_⟩
  · obtain ⟨k, hk, x⟩ := next1 X.cps s
    exact ⟨k, Nat.le_trans hk (by omega), x⟩
  · obtain ⟨q, e2, rfl⟩ := Option.map_eq_some_iff.mp e
    obtain ⟨h1, h2, _⟩ := dot_some X.cps [] _ _ _ e2
    exact ⟨h1, Nat.lt_succ_self _, h2⟩
theorem nxt2_ok (X : Str) (h : X.cps.size ≤ 4096) : Nxt code2 X (nxt2 X) := by
  refine ⟨fun s => ?_, fun s p e => ?_⟩
  · obtain ⟨k, hk, x⟩ := next2 X.cps s
    exact ⟨k, Nat.le_trans hk (by omega), x⟩
  · obtain ⟨q, e2, rfl⟩ := Option.map_eq_some_iff.mp e
    obtain ⟨h1, h2, _⟩ := nl_some X.cps [] _ _ _ e2
    exact ⟨h1, wide2_le X.cps h2⟩

theorem flat_app (a b : List Str) : flat (a ++ b) = flat a ++ flat b := by simp [flat]
theorem flat_piece (X : Str) (d q : Nat) (h : q ≤ X.cps.size) : flat (if d < q then [piece X d q] else []) = (X.cps.toList.drop d).take (q - d) := by
  by_cases hd : d < q
  · rw [if_pos hd]
    simp only [flat, piece, List.flatMap_cons, List.flatMap_nil, List.append_nil]
    rw [Array.toList_extract]
    try simp [List.extract]
  · rw [if_neg hd, show q - d = 0 by omega]; rfl
theorem rest1 (X r : Str) : ∀ (n d : Nat), X.cps.size + 1 - d ≤ n → d ≤ X.cps.size → flat (subRest X r (nxt1 X) n d) = dotq r.cps.toList (ln X.cps d) (X.cps.toList.drop d) := by
  intro n
  induction n with
  | zero => intro d h h2; omega
  | succ n ih =>
    intro d h hd
    rw [subRest]
    unfold nxt1
    cases e : find1 X.cps (X.cps.size + 1 - d) d with
    | none =>
      rw [dot_none X.cps _ _ d (Nat.le_refl _) e]
      show flat (if d < X.cps.size then [piece X d X.cps.size] else []) = _
      rw [flat_piece X d _ (Nat.le_refl _), List.take_of_length_le (by simp)]
    | some q =>
      obtain ⟨h1, h2, h3⟩ := dot_some X.cps r.cps.toList _ _ _ e
      rw [h3]
      show flat ((if d < q then [piece X d q] else []) ++ r :: subRest X r (nxt1 X) n (q + 1)) = _
      rw [flat_app, flat_piece X d q (by omega), show flat (r :: subRest X r (nxt1 X) n (q + 1)) = r.cps.toList ++ flat (subRest X r (nxt1 X) n (q + 1)) by simp [flat], ih (q + 1) (by omega) (by omega)]
      simp
theorem rest2 (X r : Str) : ∀ (n d : Nat), X.cps.size + 1 - d ≤ n → d ≤ X.cps.size → flat (subRest X r (nxt2 X) n d) = crlf r.cps.toList (X.cps.toList.drop d) := by
  intro n
  induction n with
  | zero => intro d h h2; omega
  | succ n ih =>
    intro d h hd
    rw [subRest]
    unfold nxt2
    cases e : find2 X.cps (X.cps.size + 1 - d) d with
    | none =>
      rw [nl_none X.cps _ _ d (Nat.le_refl _) e]
      show flat (if d < X.cps.size then [piece X d X.cps.size] else []) = _
      rw [flat_piece X d _ (Nat.le_refl _), List.take_of_length_le (by simp)]
    | some q =>
      obtain ⟨h1, h2, h3⟩ := nl_some X.cps r.cps.toList _ _ _ e
      obtain ⟨w1, w2⟩ := wide2_le X.cps h2
      rw [h3]
      show flat ((if d < q then [piece X d q] else []) ++ r :: subRest X r (nxt2 X) n (wide2 X.cps q)) = _
      rw [flat_app, flat_piece X d q (by omega), show flat (r :: subRest X r (nxt2 X) n (wide2 X.cps q)) = r.cps.toList ++ flat (subRest X r (nxt2 X) n (wide2 X.cps q)) by simp [flat], ih (wide2 X.cps q) (by omega) (by omega)]
      simp
theorem dotq_len (r : List Nat) : ∀ (l : List Nat) (b : Bool), (dotq r b l).length ≤ l.length * (r.length + 1)
  | [], b => by simp [dotq]
  | c :: t, b => by
    rw [dotq]
    split
    · have := dotq_len r t false
      rw [List.length_append, List.length_cons, Nat.succ_mul]; omega
    · have := dotq_len r t (Nat.beq c 10)
      rw [List.length_cons, List.length_cons, Nat.succ_mul]; omega
theorem crlf_len (r : List Nat) : ∀ (n : Nat) (l : List Nat), l.length ≤ n → (crlf r l).length ≤ l.length * (r.length + 1)
  | 0, [], _ => by simp [crlf]
  | n + 1, l, h => by
    rw [crlf.eq_def]
    split
    · simp
    · rename_i t
      have := crlf_len r n t (by simp at h; omega)
      simp only [List.length_append, List.length_cons, Nat.succ_mul]; omega
    · rename_i t
      have := crlf_len r n t (by simp at h; omega)
      simp only [List.length_append, List.length_cons, Nat.succ_mul]; omega
    · rename_i t _
      have := crlf_len r n t (by simp at h; omega)
      simp only [List.length_append, List.length_cons, Nat.succ_mul]; omega
    · rename_i c t _ _ _
      have := crlf_len r n t (by simp at h; omega)
      simp only [List.length_cons, Nat.succ_mul]; omega
theorem fold_len : ∀ (l : List Str) (n : Nat), l.foldl (fun a x => a + x.length + (⟨#[]⟩ : Str).length) n = n + (flat l).length
  | [], n => by simp [flat]
  | x :: r, n => by
    rw [List.foldl_cons, fold_len r]
    have : (⟨#[]⟩ : Str).length = 0 := rfl
    rw [this]
    simp [flat, Str.length]; omega
theorem joinOk_of {l : List Str} (h : (flat l).length ≤ sizeLine) : JoinOk ⟨#[]⟩ l = true := by
  unfold JoinOk tooLong
  rw [List.foldl_toArray, fold_len]
  simpa using h

section
variable {prog : Program} {w : World} {A : Around} {E : Value → Shared → Prop} {s : Shared} {p : Addr} {code : Array Nat} {X r : Str} {t u : Tok} {nxt : Nat → Option (Nat × Nat)}
theorem special_str : typeLookup (.type "str") "__call__" = pure none := by rw [typeLookup_type, builtinLookup_eq_fast]; kernel_rfl

theorem sub_call (N : Nxt code X nxt) (hX : X.cps.size ≤ 4096) (hr : r.cps.contains 92 = false) (P : Pat s.heap p code) (hT : s.TypeIs (.ref p) "re.Pattern") (hj : JoinOk ⟨#[]⟩ (subRest X r nxt (X.cps.size + 1) 0) = true) {Q : Value → Shared → Prop}
    (hQ : ∀ h' tk t', (∀ b o, s.heap.get? b = some o → h'.get? b = some o) → Q (.str (Txt.join ⟨#[]⟩ (subRest X r nxt (X.cps.size + 1) 0)) t') { s with heap := h', toks := tk }) :
    wpAny (model prog w) A (call (.builtin "re.Pattern.sub") [.ref p, .str r u, .str X t]) Q E s := by
  refine wpAny_call (codeAny_call_builtin slot_sub.plain entry_sub (slot_sub.check _ _ _ _ _ _ _ _ hT (args_sub _ _ _) ?_))
  have e1 : specialOf (.str r u) "__call__" = pure none := by
    unfold specialOf
    show typeLookup (.type "str") "__call__" = _
    exact special_str
  have e2 : reNamed "re.Pattern.sub" "sub" ["repl", "string", "count"] 2 [.str r u, .str X t] [] = pure [some (.str r u), some (.str X t), none] := by kernel_rfl
  show wpAny _ _ (reNamed "re.Pattern.sub" "sub" ["repl", "string", "count"] 2 [.str r u, .str X t] [] >>= _) _ _ _
  rw [e2]
  refine wpAny_bind (wpAny_pure (wpAny_bind (wpAny_pure ?_)))
  rw [e1]
  refine wpAny_bind (wpAny_pure ?_)
  refine wpAny_bind (wpAny_bind (wpAny_pure (wpAny_pure ?_)))
  show wpAny _ _ (pure (!r.cps.contains 92) >>= _) _ _ _
  refine wpAny_bind (wpAny_pure ?_)
  rw [hr]
  show wpAny _ _ (pure (Value.str r u, 0) >>= _) _ _ _
  refine wpAny_bind (wpAny_pure ?_)
  show wpAny _ _ (holding [.str r u] (reWholeTarget (.ref p) (.str X t)) >>= _) _ _ _
  refine wpAny_bind (wpAny_holding (whole P ?_))
  show wpAny _ _ (newList [] >>= _) _ _ _
  refine wpAny_bind (wpAny_newObj_type ?_)
  refine wpAny_pure ⟨Code.quiet_builtin _ (by decide +kernel), ?_⟩
  have k0 : ∀ b o, s.heap.get? b = some o → (s.heap.push { cls := .type "list", dict := none, data := .seq ([] : List Value).toArray }).get? b = some o := fun b o e => Heap.get?_push_of_some _ e
  refine loop_ok (s := { s with heap := s.heap.push { cls := .type "list", dict := none, data := .seq ([] : List Value).toArray } }) N hX (X.cps.size + 1) 0 0 s.heap.objs.size [] (Nat.le_refl _) (Nat.zero_le _) (P.keeps k0) ⟨0, Heap.get?_push_size _ rfl⟩ (by simp; omega) (fun l' e => by rw [e]; exact hj) fun h' tk t' k => ?_
  exact hQ h' tk t' fun b o e => k b o (fun hb => by rw [hb] at e; exact absurd (Heap.lt_size e) (Nat.lt_irrefl _)) (k0 b o e)

/-- the two substitutions, as the interpreter has them -/
theorem subP_ok {k : Nat} {d : D} {Q : Value → Shared → Prop} (hk : code = if k = 1 then code1 else code2) (P : Pat s.heap p code) (hT : s.TypeIs (.ref p) "re.Pattern") (h : subP k r X = some d)
    (hQ : ∀ v h' tk, (∀ b o, s.heap.get? b = some o → h'.get? b = some o) → (∀ P ρ, Lay P ρ v d) → Q v { s with heap := h', toks := tk }) :
    wpAny (model prog w) A (call (.builtin "re.Pattern.sub") [.ref p, .str r u, .str X t]) Q E s := by
  unfold subP at h
  split at h
  · rename_i hh
    obtain ⟨hX, hr, h92⟩ := hh
    have hX' : X.cps.size ≤ 4096 := hX
    have hr' : r.cps.toList.length ≤ 16 := by rw [Array.length_toList]; exact hr
    cases h
    by_cases hk1 : k = 1
    · rw [if_pos hk1] at hk
      subst hk
      have hfl := rest1 X r (X.cps.size + 1) 0 (by omega) (Nat.zero_le _)
      rw [show ln X.cps 0 = true from rfl, List.drop_zero] at hfl
      have hlen := dotq_len r.cps.toList X.cps.toList true
      have hb : (flat (subRest X r (nxt1 X) (X.cps.size + 1) 0)).length ≤ sizeLine := by
        rw [hfl]
        exact Nat.le_trans hlen (Nat.le_trans (Nat.mul_le_mul (show X.cps.toList.length ≤ 4096 by simpa using hX') (show r.cps.toList.length + 1 ≤ 17 by omega)) (by decide))
      refine sub_call (nxt1_ok X hX') hX' h92 P hT (joinOk_of hb) fun h' tk t' k0 => hQ _ h' tk k0 fun P ρ => ?_
      rw [if_pos hk1]
      have : Txt.join ⟨#[]⟩ (subRest X r (nxt1 X) (X.cps.size + 1) 0) = ⟨(dotq r.cps.toList true X.cps.toList).toArray⟩ := by
        have := glued_flat (subRest X r (nxt1 X) (X.cps.size + 1) 0)
        rw [hfl] at this
        rw [← this]
      rw [this]; exact .str _ _
    · rw [if_neg hk1] at hk
      subst hk
      have hfl := rest2 X r (X.cps.size + 1) 0 (by omega) (Nat.zero_le _)
      rw [List.drop_zero] at hfl
      have hlen := crlf_len r.cps.toList _ X.cps.toList (Nat.le_refl _)
      have hb : (flat (subRest X r (nxt2 X) (X.cps.size + 1) 0)).length ≤ sizeLine := by
        rw [hfl]
        exact Nat.le_trans hlen (Nat.le_trans (Nat.mul_le_mul (show X.cps.toList.length ≤ 4096 by simpa using hX') (show r.cps.toList.length + 1 ≤ 17 by omega)) (by decide))
      refine sub_call (nxt2_ok X hX') hX' h92 P hT (joinOk_of hb) fun h' tk t' k0 => hQ _ h' tk k0 fun P ρ => ?_
      rw [if_neg hk1]
      have : Txt.join ⟨#[]⟩ (subRest X r (nxt2 X) (X.cps.size + 1) 0) = ⟨(crlf r.cps.toList X.cps.toList).toArray⟩ := by
        have := glued_flat (subRest X r (nxt2 X) (X.cps.size + 1) 0)
        rw [hfl] at this
        rw [← this]
      rw [this]; exact .str _ _
  · cases h
end
end Mine
end
section
open PySem PySem.W PySem.Calls PyProof.Rows PySem.Builtin
set_option Elab.async false
set_option linter.unusedVariables false
set_option maxRecDepth 100000
namespace Mine
open PySem.F

section
variable {c : Cx} {A : Around} {kd : Str → Option NameKind} {sc : List (Str × Nat)} {σ : Vars} {st st₁ st₂ st₃ : Store} {x y d : D} {n : Nat} {pos : Pos} {env : Env} {fm ρ : List Addr} {s : Shared} {fN fO fI : Addr}

theorem Wf.blt (O : Ok c) (W : Wf c fm ρ st s) : ∃ mb, s.heap.Ns builtinsNs mb ∧ ∀ x : Str, x ≠ "__name__" → mb x = bootBuiltins x := by
  obtain ⟨mb, h1, h2⟩ := O.blt
  exact ⟨mb, h1.keeps W.base, h2⟩
theorem Wf.lim (O : Ok c) (W : Wf c fm ρ st s) : s.heap.NoLimit := O.lim.keeps W.base

theorem count_E {i : Nat} {l : List D} (O : Ok c) (R : Rm (n + 1) A) (I : CountK c fN) (hl : st[i]? = some (.acc l)) : CallE c A (.ref fN) [.ref i] st (.int l.length) st := by
  intro fm ρ s vs W ls Q hQ
  obtain ⟨_, rfl, lv⟩ := lays1 ls
  cases lv with | ref ha =>
  obtain ⟨us, nn, dd, od, hx, hd, had, lu⟩ := W.store _ _ _ ha hl
  refine call_count O R I (W.K O) (W.lim O) (W.blt O) hx hd.1 fun h' t tk k => ?_
  have K := kp_mk (s := s) (tk := tk) k
  rw [lu.length]
  exact hQ _ _ ρ (W.keeps K) (kp_adv K ρ) (.int _ _)

theorem pop_E {i : Nat} {l : List D} {st' : Store} (O : Ok c) (R : Rm (n + 2) A) (I : PopK c fN fO) (hl : st[i]? = some (.acc l)) (hn : l.length ≤ lid)
    (h : match l.getLast? with | some e => d = e ∧ st' = st.set i (.acc l.dropLast) | none => d = .tup [.str ⟨#[]⟩, .str ⟨#[]⟩] ∧ st' = st) : CallE c A (.ref fO) [.ref i] st d st' := by
  intro fm ρ s vs W ls Q hQ
  obtain ⟨_, rfl, lv⟩ := lays1 ls
  cases lv with | ref ha =>
  obtain ⟨us, nn, dd, od, hx, hd, had, lu⟩ := W.store _ _ _ ha hl
  have hlen := lu.length
  refine call_pop O R I (W.K O) (W.lim O) (W.blt O) hx hd.1 had (by rw [hlen]; exact Nat.le_trans hn (by decide)) (fun h0 a h' t1 t2 tk k hn0 e => ?_) fun u v hu h' n' tk k e => ?_
  · subst h0
    have : l = [] := List.eq_nil_of_length_eq_zero hlen.symm
    subst this
    obtain ⟨rfl, rfl⟩ := h
    have K := kp_mk (s := s) (tk := tk) k
    exact hQ _ _ ρ (W.keeps K) (kp_adv K ρ) (.tup (n := 0) (W.out_new (s' := { s with heap := h', toks := tk }) hn0 e) (.cons (.str _ _) (.cons (.str _ _) .nil)))
  · subst hu
    obtain ⟨es, e2, rfl, l1, l2⟩ := lu.snoc
    rw [List.getLast?_concat] at h
    obtain ⟨rfl, rfl⟩ := h
    rw [List.dropLast_concat] at hQ
    rename_i a
    have hdn : dd ≠ a := fun q => hd.2 (List.mem_append_right _ (q ▸ List.mem_of_getElem? ha))
    have A1 : Adv ρ ρ s { s with heap := h', toks := tk } := ⟨fun b o hb e => k b o (fun q => hb (q ▸ List.mem_of_getElem? ha)) e, fun _ h n => absurd h n, fun _ _ e => e⟩
    obtain ⟨W1, _⟩ := W.upd (s' := { s with heap := h', toks := tk }) (mo := .acc es) ha ⟨_, _, rfl⟩ k ⟨_, e⟩ ⟨u, n', dd, od, e, (A1.go fm).out hd, had, A1.lays l1⟩
    exact hQ _ _ ρ W1 A1 (A1.lay l2)

/-- a method of an accumulator that is a function of the program -/
theorem e_meth {f : Addr} {o : Expr} {X : Str} {apos : Pos} {l : List Expr} {ds : List D} {i : Nat} {es : List D} (O : Ok c) (k : ClsK c.K c.C) (hf : findIn c.K (.ref c.C) X = some (some (.ref f))) (ht : typeIn c.K (.ref f) = some (.type "function")) (hfn : isFn c.K f = true)
    (hX : (("_initial_size" : Str) == X) = false) (ho : ncall o = true) (hl : l.all nsl = true) (hn : l.length < 30) (hp : apos.endLine = pos.line)
    (h : EvE c A kd sc o σ st (.ref i) st₁) (hacc : st₁[i]? = some (.acc es)) (he : EvL c A kd sc l σ st₁ ds st₂) (hc : CallE c A (.ref f) (.ref i :: ds) st₂ d st₃) : EvE c A kd sc (.Call (.Attribute o X apos) l [] pos) σ st d st₃ := by
  intro env fm ρ s F W V Q hQ
  refine meth_call ho hl hn hp (h env fm ρ s F W V _ fun ov s1 ρ1 W1 A1 lo => ?_)
  cases lo with | ref ha =>
  obtain ⟨us, nn, dd, od, hx, hd, ⟨hs, td, vd, kd', rfl⟩, lu⟩ := W1.store _ _ _ ha hacc
  obtain ⟨oo, fd, hoo, hfd⟩ := isFn_get' O hfn
  refine method_any k (W1.K O) (acc_inst hx hd.1) hf ht (.inl rfl) (shadow_acc hX) ?_
  refine callWith_function (o := oo) (fd := fd) (call_args hl (he pos env fm ρ1 s1 (F.adv W A1) W1 (V.adv F W A1) _ fun vs s2 ρ2 W2 A2 ls => ⟨⟨hoo W2, hfd⟩, ?_⟩))
  exact hc fm ρ2 s2 _ W2 (.cons (A2.lay (.ref ha)) ls) Q fun v s3 ρ3 W3 A3 l3 => hQ v s3 ρ3 W3 (A1.trans (A2.trans A3)) l3

theorem check_meth {M : Model} {E : Value → Shared → Prop} {i owner nm : String} {self : Value} {rest : List Value} {kw : List (Str × Value)} {Q : Unit → Shared → Prop}
    (hk : builtinKind i = some .method) (hs : splitId i = some (owner, nm)) (hi : Looks M s.heap (isInstance self (.type owner)) true) (ha : argsOk i ⟨self :: rest, kw⟩) (q : Q () s) :
    wpAny M A (checkBuiltinCall i ⟨self :: rest, kw⟩) Q E s := by
  simp only [checkBuiltinCall, hk, hs]
  refine wpAny_bind (hi.here ?_)
  simp only [Bool.not_true, Bool.false_eq_true, if_false]
  cases hsig : Manifest.signature? i with
  | none => exact wpAny_pure q
  | some sig =>
    simp only [argsOk, hsig] at ha
    have h2 : Bind.checkArgs i sig ⟨self :: rest, kw⟩ = pure () := ha
    show wpAny M A (Bind.checkArgs i sig ⟨self :: rest, kw⟩) Q E s
    rw [h2]; exact wpAny_pure q

theorem e_append {o a : Expr} {apos : Pos} {i : Nat} {l : List D} (O : Ok c) (k : ClsK c.K c.C) (hf : findIn c.K (.ref c.C) "append" = some (some (.builtin "list.append"))) (ho : ncall o = true) (hn : nsl a = true) (hp : apos.endLine = pos.line)
    (h : EvE c A kd sc o σ st (.ref i) st₁) (he : EvE c A kd sc a σ st₁ y st₂) (hacc1 : ∃ es, st₁[i]? = some (.acc es)) (hacc : st₂[i]? = some (.acc l)) (hlen : l.length ≤ lid) : EvE c A kd sc (.Call (.Attribute o "append" apos) [a] [] pos) σ st .none (st₂.set i (.acc (l ++ [y]))) := by
  intro env fm ρ s F W V Q hQ
  obtain ⟨es, hacc1⟩ := hacc1
  refine meth_call ho (by simp [hn]) (by simp) hp (h env fm ρ s F W V _ fun ov s1 ρ1 W1 A1 lo => ?_)
  cases lo with | ref ha =>
  rename_i x
  obtain ⟨us, nn, dd, od, hx, hd, ⟨hs, td, vd, kd', rfl⟩, lu⟩ := W1.store _ _ _ ha hacc1
  refine method_any k (W1.K O) (acc_inst hx hd.1) hf (t := .type "method_descriptor") (by show pureOf (fastBuiltinType "list.append") = _; kernel_rfl) (.inr rfl) (shadow_acc (by decide)) ?_
  refine callWith_builtin (plain_args (l := [a]) (by simp [hn])) (call_args (l := [a]) (by simp [hn]) (wpAny_items_cons (he env fm ρ1 s1 (F.adv W A1) W1 (V.adv F W A1) _ fun va s2 ρ2 W2 A2 la => wpAny_items_nil ?_) (nsl_star hn _ _)))
  have ha2 := A2.pre _ _ ha
  obtain ⟨us2, nn2, dd2, od2, hx2, hd2, had2, lu2⟩ := W2.store _ _ _ ha2 hacc
  refine wpAny_call (codeAny_call_builtin PySem.F.slot_list_append.plain PySem.F.entry_list_append (check_meth (owner := "list") (nm := "append") (by decide +kernel) (by decide +kernel) (isList_inst k (W2.K O) (acc_inst hx2 hd2.1)) (PySem.F.args_list_append_2 _ _) ?_))
  show wpAny _ _ (updateSeq x (·.push va) >>= _) _ _ _
  refine wpAny_bind (wpAny_updateSeq hx2 rfl ?_ (by rw [List.size_toArray, lu2.length]; exact lid_size hlen) (by rw [Array.size_push, List.size_toArray, lu2.length]; exact Nat.succ_le_succ (lid_size hlen)))
  refine wpAny_pure ?_
  obtain ⟨n', e8⟩ := map_acc c.C dd2 us2 nn2 (·.push va)
  have e9 : (accObj c.C dd2 us2 nn2).mapSeq (·.push va) = accObj c.C dd2 (us2 ++ [va]) n' := by rw [e8]; simp [accObj]
  have hx3 : (s2.heap.update x (Obj.mapSeq (·.push va))).get? x = some (accObj c.C dd2 (us2 ++ [va]) n') := by
    rw [Heap.get?_update_self _ hx2 (by rw [e9]; rfl), e9]
  have k3 : ∀ b o, b ≠ x → s2.heap.get? b = some o → (s2.heap.update x (Obj.mapSeq (·.push va))).get? b = some o := fun b o hb e => (Heap.get?_update_ne _ _ _ _ hb).trans e
  have A3 : Adv ρ2 ρ2 s2 { s2 with heap := s2.heap.update x (Obj.mapSeq (·.push va)) } := ⟨fun b o hb e => k3 b o (fun q => hb (q ▸ List.mem_of_getElem? ha2)) e, fun _ h n => absurd h n, fun _ _ e => e⟩
  obtain ⟨W3, _⟩ := W2.upd (s' := { s2 with heap := s2.heap.update x (Obj.mapSeq (·.push va)) }) (mo := .acc (l ++ [y])) ha2 ⟨_, s2.toks, rfl⟩ k3 ⟨_, hx3⟩ ⟨_, n', dd2, od2, hx3, (A3.go fm).out hd2, had2, (A3.lays lu2).append (.one (A3.lay la))⟩
  exact hQ _ _ ρ2 W3 (A1.trans (A2.trans A3)) .none

theorem e_acc0 {X : Str} {p : Pos} (O : Ok c) (R : Rm (n + 2) A) (I : InitK c fI) (hk : kd X = some .globalImplicit) (h : globIn c.K X = some (.ref c.C)) (hx : okName X = true) : EvE c A kd sc (.Call (.Name X p) [] [] pos) σ st (.ref st.length) (st ++ [.acc []]) := by
  intro env fm ρ s F W V Q hQ
  refine Call_ (glob_name O F W hk h hx ?_)
  refine callWith_of (P := fun h => c.K.In h) rfl (fun h X => ⟨.machine, .inr (.inl rfl), ?_⟩) (PyProof.Rows.evalArgs_none ⟨W.K O, ?_⟩)
  · obtain ⟨oc, od, cd, sl, e, _⟩ := I.cls.cls
    refine (Looks.ld (part := none) (X _ _ e)).andThen ?_
    exact (looks_specialIn X I.cls.call).andThen .now
  · refine acc_make O R I (W.K O) (W.lim O) (W.blt O) fun x dx od nn h' tk hxn hdn hne k hx hd had => ?_
    have hfx := fresh_fm W hxn
    have hfd := fresh_fm W hdn
    have A1 : Adv ρ (ρ ++ [x]) s { s with heap := h', toks := tk } := ⟨fun b o _ e => k b o e, fun q hq hn => by
      rcases List.mem_append.mp hq with hq | hq
      · exact absurd hq hn
      · rw [List.mem_singleton.mp hq]; exact hxn, fun i b q => by rw [List.getElem?_append_left (List.getElem?_eq_some_iff.mp q).1]; exact q⟩
    have W1 : Wf c fm (ρ ++ [x]) (st ++ [.acc []]) { s with heap := h', toks := tk } := by
      have K := kp_mk (s := s) (tk := tk) k
      have W0 := W.keeps K
      refine ⟨W0.same, W0.base, fun b hb => ?_, fun b hb => ?_, by simp [W.len], fun i b mo e1 e2 => ?_, ?_, fun b hb => ?_⟩
      · rcases hb with hb | hb
        · exact W0.alive b (.inl hb)
        · rcases List.mem_append.mp hb with hb | hb
          · exact W0.alive b (.inr hb)
          · rw [List.mem_singleton.mp hb]; exact ⟨_, hx⟩
      · rcases hb with hb | hb
        · exact W.new b (.inl hb)
        · rcases List.mem_append.mp hb with hb | hb
          · exact W.new b (.inr hb)
          · rw [List.mem_singleton.mp hb]
            cases e : c.s₀.heap.get? x with
            | none => rfl
            | some o => rw [W.base _ _ e] at hxn; cases hxn
      · by_cases hi : i < ρ.length
        · rw [List.getElem?_append_left hi] at e1
          rw [List.getElem?_append_left (by rw [← W.len]; exact hi)] at e2
          exact (W.store i b mo e1 e2).mono (fun _ _ q => A1.out q) A1.pre fun o q => k b o q
        · have hi' : i = ρ.length := by
            have := (List.getElem?_eq_some_iff.mp e1).1
            rw [List.length_append, List.length_singleton] at this; omega
          subst hi'
          rw [List.getElem?_append_right (Nat.le_refl _)] at e1
          rw [W.len, List.getElem?_append_right (Nat.le_refl _)] at e2
          simp at e1 e2
          subst e1; subst e2
          refine ⟨[], nn, dx, od, hx, ⟨hd, fun hm => ?_⟩, had, .nil⟩
          rcases List.mem_append.mp hm with q | q
          · exact hfd.1 q
          · rcases List.mem_append.mp q with q | q
            · exact hfd.2 q
            · exact hne (List.mem_singleton.mp q).symm
      · rw [List.nodup_append]
        refine ⟨W.nodup, by simp, fun b hb q hq => ?_⟩
        rw [List.mem_singleton.mp hq]
        exact fun r => hfx.2 (r ▸ hb)
      · rcases List.mem_append.mp hb with hb | hb
        · exact W.apart b hb
        · rw [List.mem_singleton.mp hb]; exact hfx.1
    refine hQ _ _ (ρ ++ [x]) W1 A1 (.ref (i := st.length) ?_)
    rw [← W.len, List.getElem?_append_right (Nat.le_refl _)]; simp

/-- a substitution by one of the two patterns -/
theorem e_sub {X : Str} {p : Pos} {apos : Pos} {pa : Addr} {k : Nat} {a b : Expr} {r t : Str} (O : Ok c) (hk : kd X = some .globalImplicit) (hg : globIn c.K X = some (.ref pa)) (hx : okName X = true) (hna : nsl a = true) (hnb : nsl b = true) (hp : apos.endLine = pos.line)
    (P : ∀ h, c.K.In h → Pat h pa (if k = 1 then code1 else code2)) (ha : EvE c A kd sc a σ st (.str r) st₁) (hb : EvE c A kd sc b σ st₁ (.str t) st₂) (hd : subP k r t = some d) : EvE c A kd sc (.Call (.Attribute (.Name X p) "sub" apos) [a, b] [] pos) σ st d st₂ := by
  intro env fm ρ s F W V Q hQ
  refine meth_call rfl (by simp [hna, hnb]) (by simp) hp (glob_name O F W hk hg hx ?_)
  obtain ⟨o, fs, T, oT, its, n, g1, g2, g3, _⟩ := (P _ (W.K O)).ex
  refine getMethod_builtin (T := "re.Pattern") ⟨o, g1, g2⟩ plain_re slot_sub type_sub (fun q e => by cases e; exact ⟨o, g1, g3⟩) ?_
  refine callWith_builtin (plain_args (l := [a, b]) (by simp [hna, hnb])) (call_args (l := [a, b]) (by simp [hna, hnb]) (wpAny_items_cons (ha env fm ρ s F W V _ fun va s1 ρ1 W1 A1 la => wpAny_items_cons (hb env fm ρ1 s1 (F.adv W A1) W1 (V.adv F W A1) _ fun vb s2 ρ2 W2 A2 lb => wpAny_items_nil ?_) (nsl_star hnb _ _)) (nsl_star hna _ _)))
  cases la; cases lb
  have P2 := P _ (W2.K O)
  obtain ⟨o2, fs2, T2, oT2, its2, n2, g1', g2', _⟩ := P2.ex
  refine subP_ok rfl P2 ⟨o2, g1', g2'⟩ hd fun v h' tk k' l' => ?_
  have K := kp_mk (s := s2) (tk := tk) k'
  exact hQ v _ ρ2 (W2.keeps K) (A1.trans (A2.trans (kp_adv K ρ2))) (l' _ _)
end
end Mine
end
section
open PySem PySem.W PySem.Calls PyProof.Rows PySem.Builtin
set_option Elab.async false
set_option linter.unusedVariables false
namespace Mine

noncomputable def dNameP (e : PySem.Expr) : Option (Str × Pos) := PySem.Expr.casesOn (motive_1 := fun _ => Option (Str × Pos)) e (fun _ _ _ => none) (fun _ _ _ => none) (fun _ _ _ _ => none) (fun _ _ _ => none) (fun _ _ _ _ => none) (fun _ _ _ _ => none) (fun _ _ _ => none) (fun _ _ _ => none) (fun _ _ _ _ => none) (fun _ _ _ _ => none) (fun _ _ _ _ _ => none) (fun _ _ _ _ => none) (fun _ _ => none) (fun _ _ => none) (fun _ _ => none) (fun _ _ _ _ => none) (fun _ _ _ _ => none) (fun _ _ _ _ => none) (fun _ _ => none) (fun _ _ _ => none) (fun _ _ _ => none) (fun _ _ _ => none) (fun _ _ => none) (fun a0 a1 => some (a0, a1)) (fun _ _ => none) (fun _ _ _ => none) (fun _ _ _ _ => none)
theorem dNameP_ok {e : PySem.Expr} {q : Str × Pos} : dNameP e = some q → e = .Name q.1 q.2 :=
  PySem.Expr.casesOn (motive_1 := fun e => dNameP e = some q → e = .Name q.1 q.2) e (fun _ _ _ h => bad h) (fun _ _ _ h => bad h) (fun _ _ _ _ h => bad h) (fun _ _ _ h => bad h) (fun _ _ _ _ h => bad h) (fun _ _ _ _ h => bad h) (fun _ _ _ h => bad h) (fun _ _ _ h => bad h) (fun _ _ _ _ h => bad h) (fun _ _ _ _ h => bad h) (fun _ _ _ _ _ h => bad h) (fun _ _ _ _ h => bad h) (fun _ _ h => bad h) (fun _ _ h => bad h) (fun _ _ h => bad h) (fun _ _ _ _ h => bad h) (fun _ _ _ _ h => bad h) (fun _ _ _ _ h => bad h) (fun _ _ h => bad h) (fun _ _ _ h => bad h) (fun _ _ _ h => bad h) (fun _ _ _ h => bad h) (fun _ _ h => bad h) (fun _ _ h => by cases h; rfl) (fun _ _ h => bad h) (fun _ _ _ h => bad h) (fun _ _ _ _ h => bad h)
noncomputable def dCst (e : PySem.Expr) : Option (Const) := PySem.Expr.casesOn (motive_1 := fun _ => Option (Const)) e (fun _ _ _ => none) (fun _ _ _ => none) (fun _ _ _ _ => none) (fun _ _ _ => none) (fun _ _ _ _ => none) (fun _ _ _ _ => none) (fun _ _ _ => none) (fun _ _ _ => none) (fun _ _ _ _ => none) (fun _ _ _ _ => none) (fun _ _ _ _ _ => none) (fun _ _ _ _ => none) (fun _ _ => none) (fun _ _ => none) (fun _ _ => none) (fun _ _ _ _ => none) (fun _ _ _ _ => none) (fun _ _ _ _ => none) (fun _ _ => none) (fun a0 _ _ => some a0) (fun _ _ _ => none) (fun _ _ _ => none) (fun _ _ => none) (fun _ _ => none) (fun _ _ => none) (fun _ _ _ => none) (fun _ _ _ _ => none)
theorem dCst_ok {e : PySem.Expr} {q : Const} : dCst e = some q → ∃ b1 b2, e = .Constant q b1 b2 :=
  PySem.Expr.casesOn (motive_1 := fun e => dCst e = some q → ∃ b1 b2, e = .Constant q b1 b2) e (fun _ _ _ h => bad h) (fun _ _ _ h => bad h) (fun _ _ _ _ h => bad h) (fun _ _ _ h => bad h) (fun _ _ _ _ h => bad h) (fun _ _ _ _ h => bad h) (fun _ _ _ h => bad h) (fun _ _ _ h => bad h) (fun _ _ _ _ h => bad h) (fun _ _ _ _ h => bad h) (fun _ _ _ _ _ h => bad h) (fun _ _ _ _ h => bad h) (fun _ _ h => bad h) (fun _ _ h => bad h) (fun _ _ h => bad h) (fun _ _ _ _ h => bad h) (fun _ _ _ _ h => bad h) (fun _ _ _ _ h => bad h) (fun _ _ h => bad h) (fun _ b1 b2 h => ⟨b1, b2, by cases h; rfl⟩) (fun _ _ _ h => bad h) (fun _ _ _ h => bad h) (fun _ _ h => bad h) (fun _ _ h => bad h) (fun _ _ h => bad h) (fun _ _ _ h => bad h) (fun _ _ _ _ h => bad h)
noncomputable def dBin (e : PySem.Expr) : Option (PySem.Expr × Operator × PySem.Expr) := PySem.Expr.casesOn (motive_1 := fun _ => Option (PySem.Expr × Operator × PySem.Expr)) e (fun _ _ _ => none) (fun _ _ _ => none) (fun a0 a1 a2 _ => some (a0, a1, a2)) (fun _ _ _ => none) (fun _ _ _ _ => none) (fun _ _ _ _ => none) (fun _ _ _ => none) (fun _ _ _ => none) (fun _ _ _ _ => none) (fun _ _ _ _ => none) (fun _ _ _ _ _ => none) (fun _ _ _ _ => none) (fun _ _ => none) (fun _ _ => none) (fun _ _ => none) (fun _ _ _ _ => none) (fun _ _ _ _ => none) (fun _ _ _ _ => none) (fun _ _ => none) (fun _ _ _ => none) (fun _ _ _ => none) (fun _ _ _ => none) (fun _ _ => none) (fun _ _ => none) (fun _ _ => none) (fun _ _ _ => none) (fun _ _ _ _ => none)
theorem dBin_ok {e : PySem.Expr} {q : PySem.Expr × Operator × PySem.Expr} : dBin e = some q → ∃ b3, e = .BinOp q.1 q.2.1 q.2.2 b3 :=
  PySem.Expr.casesOn (motive_1 := fun e => dBin e = some q → ∃ b3, e = .BinOp q.1 q.2.1 q.2.2 b3) e (fun _ _ _ h => bad h) (fun _ _ _ h => bad h) (fun _ _ _ b3 h => ⟨b3, by cases h; rfl⟩) (fun _ _ _ h => bad h) (fun _ _ _ _ h => bad h) (fun _ _ _ _ h => bad h) (fun _ _ _ h => bad h) (fun _ _ _ h => bad h) (fun _ _ _ _ h => bad h) (fun _ _ _ _ h => bad h) (fun _ _ _ _ _ h => bad h) (fun _ _ _ _ h => bad h) (fun _ _ h => bad h) (fun _ _ h => bad h) (fun _ _ h => bad h) (fun _ _ _ _ h => bad h) (fun _ _ _ _ h => bad h) (fun _ _ _ _ h => bad h) (fun _ _ h => bad h) (fun _ _ _ h => bad h) (fun _ _ _ h => bad h) (fun _ _ _ h => bad h) (fun _ _ h => bad h) (fun _ _ h => bad h) (fun _ _ h => bad h) (fun _ _ _ h => bad h) (fun _ _ _ _ h => bad h)
noncomputable def dUn (e : PySem.Expr) : Option (UnaryOp × PySem.Expr) := PySem.Expr.casesOn (motive_1 := fun _ => Option (UnaryOp × PySem.Expr)) e (fun _ _ _ => none) (fun _ _ _ => none) (fun _ _ _ _ => none) (fun a0 a1 _ => some (a0, a1)) (fun _ _ _ _ => none) (fun _ _ _ _ => none) (fun _ _ _ => none) (fun _ _ _ => none) (fun _ _ _ _ => none) (fun _ _ _ _ => none) (fun _ _ _ _ _ => none) (fun _ _ _ _ => none) (fun _ _ => none) (fun _ _ => none) (fun _ _ => none) (fun _ _ _ _ => none) (fun _ _ _ _ => none) (fun _ _ _ _ => none) (fun _ _ => none) (fun _ _ _ => none) (fun _ _ _ => none) (fun _ _ _ => none) (fun _ _ => none) (fun _ _ => none) (fun _ _ => none) (fun _ _ _ => none) (fun _ _ _ _ => none)
theorem dUn_ok {e : PySem.Expr} {q : UnaryOp × PySem.Expr} : dUn e = some q → ∃ b2, e = .UnaryOp q.1 q.2 b2 :=
  PySem.Expr.casesOn (motive_1 := fun e => dUn e = some q → ∃ b2, e = .UnaryOp q.1 q.2 b2) e (fun _ _ _ h => bad h) (fun _ _ _ h => bad h) (fun _ _ _ _ h => bad h) (fun _ _ b2 h => ⟨b2, by cases h; rfl⟩) (fun _ _ _ _ h => bad h) (fun _ _ _ _ h => bad h) (fun _ _ _ h => bad h) (fun _ _ _ h => bad h) (fun _ _ _ _ h => bad h) (fun _ _ _ _ h => bad h) (fun _ _ _ _ _ h => bad h) (fun _ _ _ _ h => bad h) (fun _ _ h => bad h) (fun _ _ h => bad h) (fun _ _ h => bad h) (fun _ _ _ _ h => bad h) (fun _ _ _ _ h => bad h) (fun _ _ _ _ h => bad h) (fun _ _ h => bad h) (fun _ _ _ h => bad h) (fun _ _ _ h => bad h) (fun _ _ _ h => bad h) (fun _ _ h => bad h) (fun _ _ h => bad h) (fun _ _ h => bad h) (fun _ _ _ h => bad h) (fun _ _ _ _ h => bad h)
noncomputable def dCmp (e : PySem.Expr) : Option (PySem.Expr × List CmpOp × List PySem.Expr) := PySem.Expr.casesOn (motive_1 := fun _ => Option (PySem.Expr × List CmpOp × List PySem.Expr)) e (fun _ _ _ => none) (fun _ _ _ => none) (fun _ _ _ _ => none) (fun _ _ _ => none) (fun _ _ _ _ => none) (fun _ _ _ _ => none) (fun _ _ _ => none) (fun _ _ _ => none) (fun _ _ _ _ => none) (fun _ _ _ _ => none) (fun _ _ _ _ _ => none) (fun _ _ _ _ => none) (fun _ _ => none) (fun _ _ => none) (fun _ _ => none) (fun a0 a1 a2 _ => some (a0, a1, a2)) (fun _ _ _ _ => none) (fun _ _ _ _ => none) (fun _ _ => none) (fun _ _ _ => none) (fun _ _ _ => none) (fun _ _ _ => none) (fun _ _ => none) (fun _ _ => none) (fun _ _ => none) (fun _ _ _ => none) (fun _ _ _ _ => none)
theorem dCmp_ok {e : PySem.Expr} {q : PySem.Expr × List CmpOp × List PySem.Expr} : dCmp e = some q → ∃ b3, e = .Compare q.1 q.2.1 q.2.2 b3 :=
  PySem.Expr.casesOn (motive_1 := fun e => dCmp e = some q → ∃ b3, e = .Compare q.1 q.2.1 q.2.2 b3) e (fun _ _ _ h => bad h) (fun _ _ _ h => bad h) (fun _ _ _ _ h => bad h) (fun _ _ _ h => bad h) (fun _ _ _ _ h => bad h) (fun _ _ _ _ h => bad h) (fun _ _ _ h => bad h) (fun _ _ _ h => bad h) (fun _ _ _ _ h => bad h) (fun _ _ _ _ h => bad h) (fun _ _ _ _ _ h => bad h) (fun _ _ _ _ h => bad h) (fun _ _ h => bad h) (fun _ _ h => bad h) (fun _ _ h => bad h) (fun _ _ _ b3 h => ⟨b3, by cases h; rfl⟩) (fun _ _ _ _ h => bad h) (fun _ _ _ _ h => bad h) (fun _ _ h => bad h) (fun _ _ _ h => bad h) (fun _ _ _ h => bad h) (fun _ _ _ h => bad h) (fun _ _ h => bad h) (fun _ _ h => bad h) (fun _ _ h => bad h) (fun _ _ _ h => bad h) (fun _ _ _ _ h => bad h)
noncomputable def dIte (e : PySem.Expr) : Option (PySem.Expr × PySem.Expr × PySem.Expr) := PySem.Expr.casesOn (motive_1 := fun _ => Option (PySem.Expr × PySem.Expr × PySem.Expr)) e (fun _ _ _ => none) (fun _ _ _ => none) (fun _ _ _ _ => none) (fun _ _ _ => none) (fun _ _ _ _ => none) (fun a0 a1 a2 _ => some (a0, a1, a2)) (fun _ _ _ => none) (fun _ _ _ => none) (fun _ _ _ _ => none) (fun _ _ _ _ => none) (fun _ _ _ _ _ => none) (fun _ _ _ _ => none) (fun _ _ => none) (fun _ _ => none) (fun _ _ => none) (fun _ _ _ _ => none) (fun _ _ _ _ => none) (fun _ _ _ _ => none) (fun _ _ => none) (fun _ _ _ => none) (fun _ _ _ => none) (fun _ _ _ => none) (fun _ _ => none) (fun _ _ => none) (fun _ _ => none) (fun _ _ _ => none) (fun _ _ _ _ => none)
theorem dIte_ok {e : PySem.Expr} {q : PySem.Expr × PySem.Expr × PySem.Expr} : dIte e = some q → ∃ b3, e = .IfExp q.1 q.2.1 q.2.2 b3 :=
  PySem.Expr.casesOn (motive_1 := fun e => dIte e = some q → ∃ b3, e = .IfExp q.1 q.2.1 q.2.2 b3) e (fun _ _ _ h => bad h) (fun _ _ _ h => bad h) (fun _ _ _ _ h => bad h) (fun _ _ _ h => bad h) (fun _ _ _ _ h => bad h) (fun _ _ _ b3 h => ⟨b3, by cases h; rfl⟩) (fun _ _ _ h => bad h) (fun _ _ _ h => bad h) (fun _ _ _ _ h => bad h) (fun _ _ _ _ h => bad h) (fun _ _ _ _ _ h => bad h) (fun _ _ _ _ h => bad h) (fun _ _ h => bad h) (fun _ _ h => bad h) (fun _ _ h => bad h) (fun _ _ _ _ h => bad h) (fun _ _ _ _ h => bad h) (fun _ _ _ _ h => bad h) (fun _ _ h => bad h) (fun _ _ _ h => bad h) (fun _ _ _ h => bad h) (fun _ _ _ h => bad h) (fun _ _ h => bad h) (fun _ _ h => bad h) (fun _ _ h => bad h) (fun _ _ _ h => bad h) (fun _ _ _ _ h => bad h)
noncomputable def dSub (e : PySem.Expr) : Option (PySem.Expr × PySem.Expr) := PySem.Expr.casesOn (motive_1 := fun _ => Option (PySem.Expr × PySem.Expr)) e (fun _ _ _ => none) (fun _ _ _ => none) (fun _ _ _ _ => none) (fun _ _ _ => none) (fun _ _ _ _ => none) (fun _ _ _ _ => none) (fun _ _ _ => none) (fun _ _ _ => none) (fun _ _ _ _ => none) (fun _ _ _ _ => none) (fun _ _ _ _ _ => none) (fun _ _ _ _ => none) (fun _ _ => none) (fun _ _ => none) (fun _ _ => none) (fun _ _ _ _ => none) (fun _ _ _ _ => none) (fun _ _ _ _ => none) (fun _ _ => none) (fun _ _ _ => none) (fun _ _ _ => none) (fun a0 a1 _ => some (a0, a1)) (fun _ _ => none) (fun _ _ => none) (fun _ _ => none) (fun _ _ _ => none) (fun _ _ _ _ => none)
theorem dSub_ok {e : PySem.Expr} {q : PySem.Expr × PySem.Expr} : dSub e = some q → ∃ b2, e = .Subscript q.1 q.2 b2 :=
  PySem.Expr.casesOn (motive_1 := fun e => dSub e = some q → ∃ b2, e = .Subscript q.1 q.2 b2) e (fun _ _ _ h => bad h) (fun _ _ _ h => bad h) (fun _ _ _ _ h => bad h) (fun _ _ _ h => bad h) (fun _ _ _ _ h => bad h) (fun _ _ _ _ h => bad h) (fun _ _ _ h => bad h) (fun _ _ _ h => bad h) (fun _ _ _ _ h => bad h) (fun _ _ _ _ h => bad h) (fun _ _ _ _ _ h => bad h) (fun _ _ _ _ h => bad h) (fun _ _ h => bad h) (fun _ _ h => bad h) (fun _ _ h => bad h) (fun _ _ _ _ h => bad h) (fun _ _ _ _ h => bad h) (fun _ _ _ _ h => bad h) (fun _ _ h => bad h) (fun _ _ _ h => bad h) (fun _ _ _ h => bad h) (fun _ _ b2 h => ⟨b2, by cases h; rfl⟩) (fun _ _ h => bad h) (fun _ _ h => bad h) (fun _ _ h => bad h) (fun _ _ _ h => bad h) (fun _ _ _ _ h => bad h)
noncomputable def dSlc (e : PySem.Expr) : Option (Option PySem.Expr × Option PySem.Expr × Option PySem.Expr) := PySem.Expr.casesOn (motive_1 := fun _ => Option (Option PySem.Expr × Option PySem.Expr × Option PySem.Expr)) e (fun _ _ _ => none) (fun _ _ _ => none) (fun _ _ _ _ => none) (fun _ _ _ => none) (fun _ _ _ _ => none) (fun _ _ _ _ => none) (fun _ _ _ => none) (fun _ _ _ => none) (fun _ _ _ _ => none) (fun _ _ _ _ => none) (fun _ _ _ _ _ => none) (fun _ _ _ _ => none) (fun _ _ => none) (fun _ _ => none) (fun _ _ => none) (fun _ _ _ _ => none) (fun _ _ _ _ => none) (fun _ _ _ _ => none) (fun _ _ => none) (fun _ _ _ => none) (fun _ _ _ => none) (fun _ _ _ => none) (fun _ _ => none) (fun _ _ => none) (fun _ _ => none) (fun _ _ _ => none) (fun a0 a1 a2 _ => some (a0, a1, a2))
theorem dSlc_ok {e : PySem.Expr} {q : Option PySem.Expr × Option PySem.Expr × Option PySem.Expr} : dSlc e = some q → ∃ b3, e = .Slice q.1 q.2.1 q.2.2 b3 :=
  PySem.Expr.casesOn (motive_1 := fun e => dSlc e = some q → ∃ b3, e = .Slice q.1 q.2.1 q.2.2 b3) e (fun _ _ _ h => bad h) (fun _ _ _ h => bad h) (fun _ _ _ _ h => bad h) (fun _ _ _ h => bad h) (fun _ _ _ _ h => bad h) (fun _ _ _ _ h => bad h) (fun _ _ _ h => bad h) (fun _ _ _ h => bad h) (fun _ _ _ _ h => bad h) (fun _ _ _ _ h => bad h) (fun _ _ _ _ _ h => bad h) (fun _ _ _ _ h => bad h) (fun _ _ h => bad h) (fun _ _ h => bad h) (fun _ _ h => bad h) (fun _ _ _ _ h => bad h) (fun _ _ _ _ h => bad h) (fun _ _ _ _ h => bad h) (fun _ _ h => bad h) (fun _ _ _ h => bad h) (fun _ _ _ h => bad h) (fun _ _ _ h => bad h) (fun _ _ h => bad h) (fun _ _ h => bad h) (fun _ _ h => bad h) (fun _ _ _ h => bad h) (fun _ _ _ b3 h => ⟨b3, by cases h; rfl⟩)
noncomputable def dTup (e : PySem.Expr) : Option (List PySem.Expr) := PySem.Expr.casesOn (motive_1 := fun _ => Option (List PySem.Expr)) e (fun _ _ _ => none) (fun _ _ _ => none) (fun _ _ _ _ => none) (fun _ _ _ => none) (fun _ _ _ _ => none) (fun _ _ _ _ => none) (fun _ _ _ => none) (fun _ _ _ => none) (fun _ _ _ _ => none) (fun _ _ _ _ => none) (fun _ _ _ _ _ => none) (fun _ _ _ _ => none) (fun _ _ => none) (fun _ _ => none) (fun _ _ => none) (fun _ _ _ _ => none) (fun _ _ _ _ => none) (fun _ _ _ _ => none) (fun _ _ => none) (fun _ _ _ => none) (fun _ _ _ => none) (fun _ _ _ => none) (fun _ _ => none) (fun _ _ => none) (fun _ _ => none) (fun a0 _ _ => some a0) (fun _ _ _ _ => none)
theorem dTup_ok {e : PySem.Expr} {q : List PySem.Expr} : dTup e = some q → ∃ b1 b2, e = .Tuple q b1 b2 :=
  PySem.Expr.casesOn (motive_1 := fun e => dTup e = some q → ∃ b1 b2, e = .Tuple q b1 b2) e (fun _ _ _ h => bad h) (fun _ _ _ h => bad h) (fun _ _ _ _ h => bad h) (fun _ _ _ h => bad h) (fun _ _ _ _ h => bad h) (fun _ _ _ _ h => bad h) (fun _ _ _ h => bad h) (fun _ _ _ h => bad h) (fun _ _ _ _ h => bad h) (fun _ _ _ _ h => bad h) (fun _ _ _ _ _ h => bad h) (fun _ _ _ _ h => bad h) (fun _ _ h => bad h) (fun _ _ h => bad h) (fun _ _ h => bad h) (fun _ _ _ _ h => bad h) (fun _ _ _ _ h => bad h) (fun _ _ _ _ h => bad h) (fun _ _ h => bad h) (fun _ _ _ h => bad h) (fun _ _ _ h => bad h) (fun _ _ _ h => bad h) (fun _ _ h => bad h) (fun _ _ h => bad h) (fun _ _ h => bad h) (fun _ b1 b2 h => ⟨b1, b2, by cases h; rfl⟩) (fun _ _ _ _ h => bad h)
noncomputable def dLst (e : PySem.Expr) : Option (List PySem.Expr) := PySem.Expr.casesOn (motive_1 := fun _ => Option (List PySem.Expr)) e (fun _ _ _ => none) (fun _ _ _ => none) (fun _ _ _ _ => none) (fun _ _ _ => none) (fun _ _ _ _ => none) (fun _ _ _ _ => none) (fun _ _ _ => none) (fun _ _ _ => none) (fun _ _ _ _ => none) (fun _ _ _ _ => none) (fun _ _ _ _ _ => none) (fun _ _ _ _ => none) (fun _ _ => none) (fun _ _ => none) (fun _ _ => none) (fun _ _ _ _ => none) (fun _ _ _ _ => none) (fun _ _ _ _ => none) (fun _ _ => none) (fun _ _ _ => none) (fun _ _ _ => none) (fun _ _ _ => none) (fun _ _ => none) (fun _ _ => none) (fun a0 _ => some a0) (fun _ _ _ => none) (fun _ _ _ _ => none)
theorem dLst_ok {e : PySem.Expr} {q : List PySem.Expr} : dLst e = some q → ∃ b1, e = .List q b1 :=
  PySem.Expr.casesOn (motive_1 := fun e => dLst e = some q → ∃ b1, e = .List q b1) e (fun _ _ _ h => bad h) (fun _ _ _ h => bad h) (fun _ _ _ _ h => bad h) (fun _ _ _ h => bad h) (fun _ _ _ _ h => bad h) (fun _ _ _ _ h => bad h) (fun _ _ _ h => bad h) (fun _ _ _ h => bad h) (fun _ _ _ _ h => bad h) (fun _ _ _ _ h => bad h) (fun _ _ _ _ _ h => bad h) (fun _ _ _ _ h => bad h) (fun _ _ h => bad h) (fun _ _ h => bad h) (fun _ _ h => bad h) (fun _ _ _ _ h => bad h) (fun _ _ _ _ h => bad h) (fun _ _ _ _ h => bad h) (fun _ _ h => bad h) (fun _ _ _ h => bad h) (fun _ _ _ h => bad h) (fun _ _ _ h => bad h) (fun _ _ h => bad h) (fun _ _ h => bad h) (fun _ b1 h => ⟨b1, by cases h; rfl⟩) (fun _ _ _ h => bad h) (fun _ _ _ _ h => bad h)
noncomputable def dLc (e : PySem.Expr) : Option (PySem.Expr × List Comprehension × Scope × Pos) := PySem.Expr.casesOn (motive_1 := fun _ => Option (PySem.Expr × List Comprehension × Scope × Pos)) e (fun _ _ _ => none) (fun _ _ _ => none) (fun _ _ _ _ => none) (fun _ _ _ => none) (fun _ _ _ _ => none) (fun _ _ _ _ => none) (fun _ _ _ => none) (fun _ _ _ => none) (fun a0 a1 a2 a3 => some (a0, a1, a2, a3)) (fun _ _ _ _ => none) (fun _ _ _ _ _ => none) (fun _ _ _ _ => none) (fun _ _ => none) (fun _ _ => none) (fun _ _ => none) (fun _ _ _ _ => none) (fun _ _ _ _ => none) (fun _ _ _ _ => none) (fun _ _ => none) (fun _ _ _ => none) (fun _ _ _ => none) (fun _ _ _ => none) (fun _ _ => none) (fun _ _ => none) (fun _ _ => none) (fun _ _ _ => none) (fun _ _ _ _ => none)
theorem dLc_ok {e : PySem.Expr} {q : PySem.Expr × List Comprehension × Scope × Pos} : dLc e = some q → e = .ListComp q.1 q.2.1 q.2.2.1 q.2.2.2 :=
  PySem.Expr.casesOn (motive_1 := fun e => dLc e = some q → e = .ListComp q.1 q.2.1 q.2.2.1 q.2.2.2) e (fun _ _ _ h => bad h) (fun _ _ _ h => bad h) (fun _ _ _ _ h => bad h) (fun _ _ _ h => bad h) (fun _ _ _ _ h => bad h) (fun _ _ _ _ h => bad h) (fun _ _ _ h => bad h) (fun _ _ _ h => bad h) (fun _ _ _ _ h => by cases h; rfl) (fun _ _ _ _ h => bad h) (fun _ _ _ _ _ h => bad h) (fun _ _ _ _ h => bad h) (fun _ _ h => bad h) (fun _ _ h => bad h) (fun _ _ h => bad h) (fun _ _ _ _ h => bad h) (fun _ _ _ _ h => bad h) (fun _ _ _ _ h => bad h) (fun _ _ h => bad h) (fun _ _ _ h => bad h) (fun _ _ _ h => bad h) (fun _ _ _ h => bad h) (fun _ _ h => bad h) (fun _ _ h => bad h) (fun _ _ h => bad h) (fun _ _ _ h => bad h) (fun _ _ _ _ h => bad h)
noncomputable def dCall (e : PySem.Expr) : Option (PySem.Expr × List PySem.Expr × List Keyword × Pos) := PySem.Expr.casesOn (motive_1 := fun _ => Option (PySem.Expr × List PySem.Expr × List Keyword × Pos)) e (fun _ _ _ => none) (fun _ _ _ => none) (fun _ _ _ _ => none) (fun _ _ _ => none) (fun _ _ _ _ => none) (fun _ _ _ _ => none) (fun _ _ _ => none) (fun _ _ _ => none) (fun _ _ _ _ => none) (fun _ _ _ _ => none) (fun _ _ _ _ _ => none) (fun _ _ _ _ => none) (fun _ _ => none) (fun _ _ => none) (fun _ _ => none) (fun _ _ _ _ => none) (fun a0 a1 a2 a3 => some (a0, a1, a2, a3)) (fun _ _ _ _ => none) (fun _ _ => none) (fun _ _ _ => none) (fun _ _ _ => none) (fun _ _ _ => none) (fun _ _ => none) (fun _ _ => none) (fun _ _ => none) (fun _ _ _ => none) (fun _ _ _ _ => none)
theorem dCall_ok {e : PySem.Expr} {q : PySem.Expr × List PySem.Expr × List Keyword × Pos} : dCall e = some q → e = .Call q.1 q.2.1 q.2.2.1 q.2.2.2 :=
  PySem.Expr.casesOn (motive_1 := fun e => dCall e = some q → e = .Call q.1 q.2.1 q.2.2.1 q.2.2.2) e (fun _ _ _ h => bad h) (fun _ _ _ h => bad h) (fun _ _ _ _ h => bad h) (fun _ _ _ h => bad h) (fun _ _ _ _ h => bad h) (fun _ _ _ _ h => bad h) (fun _ _ _ h => bad h) (fun _ _ _ h => bad h) (fun _ _ _ _ h => bad h) (fun _ _ _ _ h => bad h) (fun _ _ _ _ _ h => bad h) (fun _ _ _ _ h => bad h) (fun _ _ h => bad h) (fun _ _ h => bad h) (fun _ _ h => bad h) (fun _ _ _ _ h => bad h) (fun _ _ _ _ h => by cases h; rfl) (fun _ _ _ _ h => bad h) (fun _ _ h => bad h) (fun _ _ _ h => bad h) (fun _ _ _ h => bad h) (fun _ _ _ h => bad h) (fun _ _ h => bad h) (fun _ _ h => bad h) (fun _ _ h => bad h) (fun _ _ _ h => bad h) (fun _ _ _ _ h => bad h)
noncomputable def dAt (e : PySem.Expr) : Option (PySem.Expr × Str × Pos) := PySem.Expr.casesOn (motive_1 := fun _ => Option (PySem.Expr × Str × Pos)) e (fun _ _ _ => none) (fun _ _ _ => none) (fun _ _ _ _ => none) (fun _ _ _ => none) (fun _ _ _ _ => none) (fun _ _ _ _ => none) (fun _ _ _ => none) (fun _ _ _ => none) (fun _ _ _ _ => none) (fun _ _ _ _ => none) (fun _ _ _ _ _ => none) (fun _ _ _ _ => none) (fun _ _ => none) (fun _ _ => none) (fun _ _ => none) (fun _ _ _ _ => none) (fun _ _ _ _ => none) (fun _ _ _ _ => none) (fun _ _ => none) (fun _ _ _ => none) (fun a0 a1 a2 => some (a0, a1, a2)) (fun _ _ _ => none) (fun _ _ => none) (fun _ _ => none) (fun _ _ => none) (fun _ _ _ => none) (fun _ _ _ _ => none)
theorem dAt_ok {e : PySem.Expr} {q : PySem.Expr × Str × Pos} : dAt e = some q → e = .Attribute q.1 q.2.1 q.2.2 :=
  PySem.Expr.casesOn (motive_1 := fun e => dAt e = some q → e = .Attribute q.1 q.2.1 q.2.2) e (fun _ _ _ h => bad h) (fun _ _ _ h => bad h) (fun _ _ _ _ h => bad h) (fun _ _ _ h => bad h) (fun _ _ _ _ h => bad h) (fun _ _ _ _ h => bad h) (fun _ _ _ h => bad h) (fun _ _ _ h => bad h) (fun _ _ _ _ h => bad h) (fun _ _ _ _ h => bad h) (fun _ _ _ _ _ h => bad h) (fun _ _ _ _ h => bad h) (fun _ _ h => bad h) (fun _ _ h => bad h) (fun _ _ h => bad h) (fun _ _ _ _ h => bad h) (fun _ _ _ _ h => bad h) (fun _ _ _ _ h => bad h) (fun _ _ h => bad h) (fun _ _ _ h => bad h) (fun _ _ _ h => by cases h; rfl) (fun _ _ _ h => bad h) (fun _ _ h => bad h) (fun _ _ h => bad h) (fun _ _ h => bad h) (fun _ _ _ h => bad h) (fun _ _ _ _ h => bad h)
noncomputable def dBool (e : PySem.Expr) : Option (BoolOp × List PySem.Expr) := PySem.Expr.casesOn (motive_1 := fun _ => Option (BoolOp × List PySem.Expr)) e (fun a0 a1 _ => some (a0, a1)) (fun _ _ _ => none) (fun _ _ _ _ => none) (fun _ _ _ => none) (fun _ _ _ _ => none) (fun _ _ _ _ => none) (fun _ _ _ => none) (fun _ _ _ => none) (fun _ _ _ _ => none) (fun _ _ _ _ => none) (fun _ _ _ _ _ => none) (fun _ _ _ _ => none) (fun _ _ => none) (fun _ _ => none) (fun _ _ => none) (fun _ _ _ _ => none) (fun _ _ _ _ => none) (fun _ _ _ _ => none) (fun _ _ => none) (fun _ _ _ => none) (fun _ _ _ => none) (fun _ _ _ => none) (fun _ _ => none) (fun _ _ => none) (fun _ _ => none) (fun _ _ _ => none) (fun _ _ _ _ => none)
theorem dBool_ok {e : PySem.Expr} {q : BoolOp × List PySem.Expr} : dBool e = some q → ∃ b2, e = .BoolOp q.1 q.2 b2 :=
  PySem.Expr.casesOn (motive_1 := fun e => dBool e = some q → ∃ b2, e = .BoolOp q.1 q.2 b2) e (fun _ _ b2 h => ⟨b2, by cases h; rfl⟩) (fun _ _ _ h => bad h) (fun _ _ _ _ h => bad h) (fun _ _ _ h => bad h) (fun _ _ _ _ h => bad h) (fun _ _ _ _ h => bad h) (fun _ _ _ h => bad h) (fun _ _ _ h => bad h) (fun _ _ _ _ h => bad h) (fun _ _ _ _ h => bad h) (fun _ _ _ _ _ h => bad h) (fun _ _ _ _ h => bad h) (fun _ _ h => bad h) (fun _ _ h => bad h) (fun _ _ h => bad h) (fun _ _ _ _ h => bad h) (fun _ _ _ _ h => bad h) (fun _ _ _ _ h => bad h) (fun _ _ h => bad h) (fun _ _ _ h => bad h) (fun _ _ _ h => bad h) (fun _ _ _ h => bad h) (fun _ _ h => bad h) (fun _ _ h => bad h) (fun _ _ h => bad h) (fun _ _ _ h => bad h) (fun _ _ _ _ h => bad h)
noncomputable def dAsg (e : PySem.Stmt) : Option (List PySem.Expr × PySem.Expr) := PySem.Stmt.casesOn (motive_2 := fun _ => Option (List PySem.Expr × PySem.Expr)) e (fun _ _ _ _ _ _ _ _ _ _ => none) (fun _ _ _ _ _ _ _ _ _ _ => none) (fun _ _ _ _ _ _ _ _ _ _ _ => none) (fun _ _ => none) (fun _ _ => none) (fun a0 a1 _ => some (a0, a1)) (fun _ _ _ _ _ _ _ => none) (fun _ _ _ _ => none) (fun _ _ _ _ _ => none) (fun _ _ _ _ _ => none) (fun _ _ _ _ _ => none) (fun _ _ _ _ => none) (fun _ _ _ _ => none) (fun _ _ _ => none) (fun _ _ _ => none) (fun _ _ _ => none) (fun _ _ _ => none) (fun _ _ _ _ _ => none) (fun _ _ _ _ _ => none) (fun _ _ _ => none) (fun _ _ => none) (fun _ _ _ _ => none) (fun _ _ => none) (fun _ _ => none) (fun _ _ => none) (fun _ => none) (fun _ => none) (fun _ => none)
theorem dAsg_ok {e : PySem.Stmt} {q : List PySem.Expr × PySem.Expr} : dAsg e = some q → ∃ b2, e = .Assign q.1 q.2 b2 :=
  PySem.Stmt.casesOn (motive_2 := fun e => dAsg e = some q → ∃ b2, e = .Assign q.1 q.2 b2) e (fun _ _ _ _ _ _ _ _ _ _ h => bad h) (fun _ _ _ _ _ _ _ _ _ _ h => bad h) (fun _ _ _ _ _ _ _ _ _ _ _ h => bad h) (fun _ _ h => bad h) (fun _ _ h => bad h) (fun _ _ b2 h => ⟨b2, by cases h; rfl⟩) (fun _ _ _ _ _ _ _ h => bad h) (fun _ _ _ _ h => bad h) (fun _ _ _ _ _ h => bad h) (fun _ _ _ _ _ h => bad h) (fun _ _ _ _ _ h => bad h) (fun _ _ _ _ h => bad h) (fun _ _ _ _ h => bad h) (fun _ _ _ h => bad h) (fun _ _ _ h => bad h) (fun _ _ _ h => bad h) (fun _ _ _ h => bad h) (fun _ _ _ _ _ h => bad h) (fun _ _ _ _ _ h => bad h) (fun _ _ _ h => bad h) (fun _ _ h => bad h) (fun _ _ _ _ h => bad h) (fun _ _ h => bad h) (fun _ _ h => bad h) (fun _ _ h => bad h) (fun _ h => bad h) (fun _ h => bad h) (fun _ h => bad h)
noncomputable def dIf (e : PySem.Stmt) : Option (PySem.Expr × List Stmt × List Stmt) := PySem.Stmt.casesOn (motive_2 := fun _ => Option (PySem.Expr × List Stmt × List Stmt)) e (fun _ _ _ _ _ _ _ _ _ _ => none) (fun _ _ _ _ _ _ _ _ _ _ => none) (fun _ _ _ _ _ _ _ _ _ _ _ => none) (fun _ _ => none) (fun _ _ => none) (fun _ _ _ => none) (fun _ _ _ _ _ _ _ => none) (fun _ _ _ _ => none) (fun _ _ _ _ _ => none) (fun _ _ _ _ _ => none) (fun _ _ _ _ _ => none) (fun _ _ _ _ => none) (fun a0 a1 a2 _ => some (a0, a1, a2)) (fun _ _ _ => none) (fun _ _ _ => none) (fun _ _ _ => none) (fun _ _ _ => none) (fun _ _ _ _ _ => none) (fun _ _ _ _ _ => none) (fun _ _ _ => none) (fun _ _ => none) (fun _ _ _ _ => none) (fun _ _ => none) (fun _ _ => none) (fun _ _ => none) (fun _ => none) (fun _ => none) (fun _ => none)
theorem dIf_ok {e : PySem.Stmt} {q : PySem.Expr × List Stmt × List Stmt} : dIf e = some q → ∃ b3, e = .If q.1 q.2.1 q.2.2 b3 :=
  PySem.Stmt.casesOn (motive_2 := fun e => dIf e = some q → ∃ b3, e = .If q.1 q.2.1 q.2.2 b3) e (fun _ _ _ _ _ _ _ _ _ _ h => bad h) (fun _ _ _ _ _ _ _ _ _ _ h => bad h) (fun _ _ _ _ _ _ _ _ _ _ _ h => bad h) (fun _ _ h => bad h) (fun _ _ h => bad h) (fun _ _ _ h => bad h) (fun _ _ _ _ _ _ _ h => bad h) (fun _ _ _ _ h => bad h) (fun _ _ _ _ _ h => bad h) (fun _ _ _ _ _ h => bad h) (fun _ _ _ _ _ h => bad h) (fun _ _ _ _ h => bad h) (fun _ _ _ b3 h => ⟨b3, by cases h; rfl⟩) (fun _ _ _ h => bad h) (fun _ _ _ h => bad h) (fun _ _ _ h => bad h) (fun _ _ _ h => bad h) (fun _ _ _ _ _ h => bad h) (fun _ _ _ _ _ h => bad h) (fun _ _ _ h => bad h) (fun _ _ h => bad h) (fun _ _ _ _ h => bad h) (fun _ _ h => bad h) (fun _ _ h => bad h) (fun _ _ h => bad h) (fun _ h => bad h) (fun _ h => bad h) (fun _ h => bad h)
noncomputable def dFor (e : PySem.Stmt) : Option (PySem.Expr × PySem.Expr × List Stmt × List Stmt) := PySem.Stmt.casesOn (motive_2 := fun _ => Option (PySem.Expr × PySem.Expr × List Stmt × List Stmt)) e (fun _ _ _ _ _ _ _ _ _ _ => none) (fun _ _ _ _ _ _ _ _ _ _ => none) (fun _ _ _ _ _ _ _ _ _ _ _ => none) (fun _ _ => none) (fun _ _ => none) (fun _ _ _ => none) (fun _ _ _ _ _ _ _ => none) (fun _ _ _ _ => none) (fun _ _ _ _ _ => none) (fun a0 a1 a2 a3 _ => some (a0, a1, a2, a3)) (fun _ _ _ _ _ => none) (fun _ _ _ _ => none) (fun _ _ _ _ => none) (fun _ _ _ => none) (fun _ _ _ => none) (fun _ _ _ => none) (fun _ _ _ => none) (fun _ _ _ _ _ => none) (fun _ _ _ _ _ => none) (fun _ _ _ => none) (fun _ _ => none) (fun _ _ _ _ => none) (fun _ _ => none) (fun _ _ => none) (fun _ _ => none) (fun _ => none) (fun _ => none) (fun _ => none)
theorem dFor_ok {e : PySem.Stmt} {q : PySem.Expr × PySem.Expr × List Stmt × List Stmt} : dFor e = some q → ∃ b4, e = .For q.1 q.2.1 q.2.2.1 q.2.2.2 b4 :=
  PySem.Stmt.casesOn (motive_2 := fun e => dFor e = some q → ∃ b4, e = .For q.1 q.2.1 q.2.2.1 q.2.2.2 b4) e (fun _ _ _ _ _ _ _ _ _ _ h => bad h) (fun _ _ _ _ _ _ _ _ _ _ h => bad h) (fun _ _ _ _ _ _ _ _ _ _ _ h => bad h) (fun _ _ h => bad h) (fun _ _ h => bad h) (fun _ _ _ h => bad h) (fun _ _ _ _ _ _ _ h => bad h) (fun _ _ _ _ h => bad h) (fun _ _ _ _ _ h => bad h) (fun _ _ _ _ b4 h => ⟨b4, by cases h; rfl⟩) (fun _ _ _ _ _ h => bad h) (fun _ _ _ _ h => bad h) (fun _ _ _ _ h => bad h) (fun _ _ _ h => bad h) (fun _ _ _ h => bad h) (fun _ _ _ h => bad h) (fun _ _ _ h => bad h) (fun _ _ _ _ _ h => bad h) (fun _ _ _ _ _ h => bad h) (fun _ _ _ h => bad h) (fun _ _ h => bad h) (fun _ _ _ _ h => bad h) (fun _ _ h => bad h) (fun _ _ h => bad h) (fun _ _ h => bad h) (fun _ h => bad h) (fun _ h => bad h) (fun _ h => bad h)
noncomputable def dRet (e : PySem.Stmt) : Option (Option PySem.Expr) := PySem.Stmt.casesOn (motive_2 := fun _ => Option (Option PySem.Expr)) e (fun _ _ _ _ _ _ _ _ _ _ => none) (fun _ _ _ _ _ _ _ _ _ _ => none) (fun _ _ _ _ _ _ _ _ _ _ _ => none) (fun a0 _ => some a0) (fun _ _ => none) (fun _ _ _ => none) (fun _ _ _ _ _ _ _ => none) (fun _ _ _ _ => none) (fun _ _ _ _ _ => none) (fun _ _ _ _ _ => none) (fun _ _ _ _ _ => none) (fun _ _ _ _ => none) (fun _ _ _ _ => none) (fun _ _ _ => none) (fun _ _ _ => none) (fun _ _ _ => none) (fun _ _ _ => none) (fun _ _ _ _ _ => none) (fun _ _ _ _ _ => none) (fun _ _ _ => none) (fun _ _ => none) (fun _ _ _ _ => none) (fun _ _ => none) (fun _ _ => none) (fun _ _ => none) (fun _ => none) (fun _ => none) (fun _ => none)
theorem dRet_ok {e : PySem.Stmt} {q : Option PySem.Expr} : dRet e = some q → ∃ b1, e = .Return q b1 :=
  PySem.Stmt.casesOn (motive_2 := fun e => dRet e = some q → ∃ b1, e = .Return q b1) e (fun _ _ _ _ _ _ _ _ _ _ h => bad h) (fun _ _ _ _ _ _ _ _ _ _ h => bad h) (fun _ _ _ _ _ _ _ _ _ _ _ h => bad h) (fun _ b1 h => ⟨b1, by cases h; rfl⟩) (fun _ _ h => bad h) (fun _ _ _ h => bad h) (fun _ _ _ _ _ _ _ h => bad h) (fun _ _ _ _ h => bad h) (fun _ _ _ _ _ h => bad h) (fun _ _ _ _ _ h => bad h) (fun _ _ _ _ _ h => bad h) (fun _ _ _ _ h => bad h) (fun _ _ _ _ h => bad h) (fun _ _ _ h => bad h) (fun _ _ _ h => bad h) (fun _ _ _ h => bad h) (fun _ _ _ h => bad h) (fun _ _ _ _ _ h => bad h) (fun _ _ _ _ _ h => bad h) (fun _ _ _ h => bad h) (fun _ _ h => bad h) (fun _ _ _ _ h => bad h) (fun _ _ h => bad h) (fun _ _ h => bad h) (fun _ _ h => bad h) (fun _ h => bad h) (fun _ h => bad h) (fun _ h => bad h)
noncomputable def dEx (e : PySem.Stmt) : Option (PySem.Expr) := PySem.Stmt.casesOn (motive_2 := fun _ => Option (PySem.Expr)) e (fun _ _ _ _ _ _ _ _ _ _ => none) (fun _ _ _ _ _ _ _ _ _ _ => none) (fun _ _ _ _ _ _ _ _ _ _ _ => none) (fun _ _ => none) (fun _ _ => none) (fun _ _ _ => none) (fun _ _ _ _ _ _ _ => none) (fun _ _ _ _ => none) (fun _ _ _ _ _ => none) (fun _ _ _ _ _ => none) (fun _ _ _ _ _ => none) (fun _ _ _ _ => none) (fun _ _ _ _ => none) (fun _ _ _ => none) (fun _ _ _ => none) (fun _ _ _ => none) (fun _ _ _ => none) (fun _ _ _ _ _ => none) (fun _ _ _ _ _ => none) (fun _ _ _ => none) (fun _ _ => none) (fun _ _ _ _ => none) (fun _ _ => none) (fun _ _ => none) (fun a0 _ => some a0) (fun _ => none) (fun _ => none) (fun _ => none)
theorem dEx_ok {e : PySem.Stmt} {q : PySem.Expr} : dEx e = some q → ∃ b1, e = .Expr q b1 :=
  PySem.Stmt.casesOn (motive_2 := fun e => dEx e = some q → ∃ b1, e = .Expr q b1) e (fun _ _ _ _ _ _ _ _ _ _ h => bad h) (fun _ _ _ _ _ _ _ _ _ _ h => bad h) (fun _ _ _ _ _ _ _ _ _ _ _ h => bad h) (fun _ _ h => bad h) (fun _ _ h => bad h) (fun _ _ _ h => bad h) (fun _ _ _ _ _ _ _ h => bad h) (fun _ _ _ _ h => bad h) (fun _ _ _ _ _ h => bad h) (fun _ _ _ _ _ h => bad h) (fun _ _ _ _ _ h => bad h) (fun _ _ _ _ h => bad h) (fun _ _ _ _ h => bad h) (fun _ _ _ h => bad h) (fun _ _ _ h => bad h) (fun _ _ _ h => bad h) (fun _ _ _ h => bad h) (fun _ _ _ _ _ h => bad h) (fun _ _ _ _ _ h => bad h) (fun _ _ _ h => bad h) (fun _ _ h => bad h) (fun _ _ _ _ h => bad h) (fun _ _ h => bad h) (fun _ _ h => bad h) (fun _ b1 h => ⟨b1, by cases h; rfl⟩) (fun _ h => bad h) (fun _ h => bad h) (fun _ h => bad h)
end Mine
end
section
open PySem PySem.W PySem.Calls PyProof.Rows PySem.Builtin
set_option Elab.async false
set_option linter.unusedVariables false
namespace Mine

noncomputable abbrev Nm := List (Str × NameKind)
noncomputable abbrev Sc := List (Str × Nat)
noncomputable def relNm (nm : Nm) (names : Nm) : Nm := names.map fun (n, k) => if (k == .free && nm.lookup n == some .cell) = true then (n, .cell) else (n, k)
noncomputable def cf (o : Option NameKind) : Bool := o == some .cell || o == some .free
noncomputable def compSc (nm : Nm) (sc : Sc) (scope : Scope) (X : Str) (ix : Nat) : Sc :=
  (X, ix) :: sc.filter fun p => !(p.2 == ix) && !(p.1 == X) && decide ((p.1, NameKind.free) ∈ scope.names) && cf ((relNm nm scope.names).lookup p.1) && cf (nm.lookup p.1)
noncomputable def compChk (nm : Nm) (sc : Sc) (scope : Scope) (X : Str) : Bool :=
  scope.kind == .function && scope.names.all (fun y => !(y.2 == .cell)) && scope.names.all (fun y => !(y.2 == .local) || scope.names.lookup y.1 == some .local) && scope.names.lookup X == some .local &&
  scope.names.all (fun y => !(y.2 == .free) || (sc.any (fun p => p.1 == y.1) && cf (nm.lookup y.1))) && (relNm nm scope.names).lookup X == some .local
theorem cf_or {o : Option NameKind} (h : cf o = true) : o = some .cell ∨ o = some .free := by
  unfold cf at h
  simpa using h
theorem compChk_ok {nm : Nm} {sc : Sc} {scope : Scope} {X : Str} {ix : Nat} (h : compChk nm sc scope X = true) : CC (fun x => nm.lookup x) sc (compSc nm sc scope X ix) scope X ix := by
  unfold compChk at h
  simp only [Bool.and_eq_true, beq_iff_eq, List.all_eq_true, Bool.or_eq_true, Bool.not_eq_true', beq_eq_false_iff_ne, ne_eq, List.any_eq_true] at h
  obtain ⟨⟨⟨⟨⟨h1, h2⟩, h3⟩, h4⟩, h5⟩, h6⟩ := h
  refine ⟨h1, fun y hy => h2 y hy, fun y hy hl => ?_, h4, fun y hy hf => ?_, h6, fun p hp => ?_⟩
  · rcases h3 y hy with q | q
    · exact absurd hl q
    · exact q
  · rcases h5 y hy with q | ⟨⟨p, hp, e⟩, q⟩
    · exact absurd hf q
    · exact ⟨p, hp, e, cf_or q⟩
  · unfold compSc at hp
    rcases List.mem_cons.mp hp with rfl | hp
    · exact .inl rfl
    · obtain ⟨q1, q2⟩ := List.mem_filter.mp hp
      simp only [Bool.and_eq_true, Bool.not_eq_true', beq_eq_false_iff_ne, ne_eq, decide_eq_true_eq] at q2
      obtain ⟨⟨⟨⟨a1, a2⟩, a3⟩, a4⟩, a5⟩ := q2
      exact .inr ⟨q1, a1, a2, a3, cf_or a4, cf_or a5⟩
theorem fsi {e : Expr} (h : nset e = true) (env : Env) (x : Value) : foldedSetIterable e env x = pure x := by
  cases e <;> first | rfl | (simp [nset] at h)

noncomputable def sameD (a b : D) : Bool := match a with
  | .str a => (match b with | .str b => a == b | _ => false)
  | _ => false
theorem sameD_ok {a b : D} (h : sameD a b = true) : a = b := by
  cases a <;> first | exact Bool.noConfusion h | skip
  cases b <;> first | exact Bool.noConfusion h | exact congrArg D.str (eq_of_beq h)
noncomputable def litD (a b : D) : Bool := match a with
  | .none => (match b with | .none => true | _ => false)
  | .bool a => (match b with | .bool b => a == b | _ => false)
  | .int a => (match b with | .int b => a == b | _ => false)
  | .flt a => (match b with | .flt b => a == b | _ => false)
  | .str a => (match b with | .str b => a == b | _ => false)
  | _ => false
theorem litD_ok {a b : D} (h : litD a b = true) : a = b := by
  cases a <;> first | exact Bool.noConfusion h | skip
  all_goals cases b <;> first | exact Bool.noConfusion h | rfl | exact congrArg _ (eq_of_beq h)
noncomputable def litOk (k : Const) (d : D) : Bool := gd (cst k) fun d' => litD d' d
theorem litOk_ok {k : Const} {d : D} (h : litOk k d = true) : cst k = some d := by
  obtain ⟨x, h1, h2⟩ := gd_ok h
  exact h1.trans (congrArg some (litD_ok h2))

/-- what the checker knows of the program's own names -/
structure Gn where
  fn : Str → Option Nat
  cst : Str → Option D
  pat : Str → Option Nat
  cls : Str
  meth : Str → Option Nat
  pop : Str
  cnt : Str
noncomputable def gi (nm : Nm) (X : Str) : Bool := nm.lookup X == some .globalImplicit && okName X
noncomputable def isN {α : Type} (l : List α) : Bool := match l with | [] => true | _ => false
theorem isN_ok {α : Type} {l : List α} (h : isN l = true) : l = [] := by
  cases l with
  | nil => rfl
  | cons => exact Bool.noConfusion h
/-- a call of a name with plain arguments -/
noncomputable def cN (nm : Nm) (e : Expr) : Option (Str × List Expr) := (dCall e).bind fun q => (dNameP q.1).bind fun r => match isN q.2.2.1 && gi nm r.1 with | true => some (r.1, q.2.1) | false => none
theorem cN_ok {nm : Nm} {e : Expr} {q} (h : cN nm e = some q) : ∃ p p', e = .Call (.Name q.1 p) q.2 [] p' ∧ gi nm q.1 = true := by
  obtain ⟨x, h1, h⟩ := bd_ok h
  obtain ⟨y, h2, h⟩ := bd_ok h
  cases hb : isN x.2.2.1 && gi nm y.1 with
  | false => rw [hb] at h; exact bad h
  | true =>
    rw [hb] at h
    cases h
    rw [dCall_ok h1, dNameP_ok h2, isN_ok (an2 hb).1]
    exact ⟨_, _, rfl, (an2 hb).2⟩
/-- a call of a method with plain arguments -/
noncomputable def cM (e : Expr) : Option (Expr × Str × List Expr) := (dCall e).bind fun q => (dAt q.1).bind fun r => match isN q.2.2.1 && decide (r.2.2.endLine = q.2.2.2.line) with | true => some (r.1, r.2.1, q.2.1) | false => none
theorem cM_ok {e : Expr} {q} (h : cM e = some q) : ∃ ap pos, e = .Call (.Attribute q.1 q.2.1 ap) q.2.2 [] pos ∧ ap.endLine = pos.line := by
  obtain ⟨x, h1, h⟩ := bd_ok h
  obtain ⟨y, h2, h⟩ := bd_ok h
  cases hb : isN x.2.2.1 && decide (y.2.2.endLine = x.2.2.2.line) with
  | false => rw [hb] at h; exact bad h
  | true =>
    rw [hb] at h
    cases h
    rw [dCall_ok h1, dAt_ok h2, isN_ok (an2 hb).1]
    exact ⟨_, _, rfl, of_decide_eq_true (an2 hb).2⟩
/-- a plain list comprehension -/
structure LcD where
  el : Expr
  X : Str
  px : Pos
  iter : Expr
  ifs : List Expr
  scope : Scope
  cp : Pos
noncomputable def cL (e : Expr) : Option LcD := (dLc e).bind fun q => (un1 q.2.1).bind fun c => (dNameP c.target).bind fun r => match c.is_async == 0 with | true => some ⟨q.1, r.1, r.2, c.iter, c.ifs, q.2.2.1, q.2.2.2⟩ | false => none
noncomputable def LcD.toE (q : LcD) : Expr := .ListComp q.el [⟨.Name q.X q.px, q.iter, q.ifs, 0⟩] q.scope q.cp
theorem cL_ok {e : Expr} {q} (h : cL e = some q) : e = q.toE := by
  obtain ⟨x, h1, h⟩ := bd_ok h
  obtain ⟨⟨t, it, ifs, ia⟩, h2, h⟩ := bd_ok h
  obtain ⟨y, h3, h⟩ := bd_ok h
  cases hb : ia == 0 with
  | false => rw [show ((ia == 0) = false) from hb] at h; exact bad h
  | true =>
    rw [show ((ia == 0) = true) from hb] at h
    cases h
    have e1 := un1_ok h2
    have e2 := dNameP_ok h3
    have e3 := eq_of_beq hb
    subst e3
    rw [dLc_ok h1, e1, show t = _ from e2]
    rfl

variable (g : Gn)
mutual
noncomputable def chkE : Nat → Nm → Sc → Expr → PE → Bool
  | 0, _, _, _, _ => false
  | m + 1, nm, sc, e, p => match p with
    | .lit d => match dCst e with
      | some k => litOk k d
      | none => gd (dNameP e) fun X => gi nm X.1 && gd (g.cst X.1) fun d' => sameD d' d
    | .var i => gd (dNameP e) fun X => okName X.1 && decide ((X.1, i) ∈ sc)
    | .bin op a b => gd (dBin e) fun q => q.2.1 == op && chkE m nm sc q.1 a && chkE m nm sc q.2.2 b
    | .neg a => gd (dUn e) fun q => q.1 == .USub && chkE m nm sc q.2 a
    | .cmp1 op a b => gd (dCmp e) fun q => gd (un1 q.2.1) fun o => gd (un1 q.2.2) fun y => o == op && nset y && chkE m nm sc q.1 a && chkE m nm sc y b
    | .ite c a b => gd (dIte e) fun q => chkT m nm sc q.1 c && chkE m nm sc q.2.1 a && chkE m nm sc q.2.2 b
    | .idx a i => gd (dSub e) fun q => nsl q.2 && chkE m nm sc q.1 a && chkE m nm sc q.2 i
    | .slc a lo hi => gd (dSub e) fun q => gd (dSlc q.2) fun r => r.2.2.isNone && chkE m nm sc q.1 a && chkO m nm sc r.1 lo && chkO m nm sc r.2.1 hi
    | .tup l => gd (dTup e) fun xs => decide (xs.length ≤ lid) && chkL m nm sc xs l
    | .lst l => gd (dLst e) fun xs => decide (xs.length ≤ lid) && chkL m nm sc xs l
    | .comp ep ix it c => gd (cL e) fun q => compChk nm sc q.scope q.X && nset q.iter && chkE m nm sc q.iter it && chkE m (relNm nm q.scope.names) (compSc nm sc q.scope q.X ix) q.el ep &&
          (match c with | none => isN q.ifs | some c => gd (un1 q.ifs) fun t => chkT m (relNm nm q.scope.names) (compSc nm sc q.scope q.X ix) t c)
    | .fn f l => gd (cN nm e) fun q => q.1 == f.name && q.2.all nsl && chkL m nm sc q.2 l
    | .me k o l => gd (cM e) fun q => q.2.1 == k.name && ncall q.1 && q.2.2.all nsl && decide (q.2.2.length < 30) && chkE m nm sc q.1 o && chkL m nm sc q.2.2 l
    | .sub k a b => gd (cM e) fun q => gd (dNameP q.1) fun X => gd (un2 q.2.2) fun y => q.2.1 == ("sub" : Str) && gi nm X.1 && g.pat X.1 == some k && nsl y.1 && nsl y.2 && chkE m nm sc y.1 a && chkE m nm sc y.2 b
    | .call f l => gd (cN nm e) fun q => g.fn q.1 == some f && q.2.all nsl && chkL m nm sc q.2 l
    | .acc0 => gd (cN nm e) fun q => q.1 == g.cls && isN q.2
    | .meth f o l => gd (cM e) fun q => g.meth q.2.1 == some f && !(("_initial_size" : Str) == q.2.1) && ncall q.1 && q.2.2.all nsl && decide (q.2.2.length < 30) && chkE m nm sc q.1 o && chkL m nm sc q.2.2 l
    | .accAppend o a => gd (cM e) fun q => gd (un1 q.2.2) fun y => q.2.1 == ("append" : Str) && ncall q.1 && nsl y && chkE m nm sc q.1 o && chkE m nm sc y a
    | .accPop o => gd (cM e) fun q => q.2.1 == g.pop && !(("_initial_size" : Str) == q.2.1) && ncall q.1 && isN q.2.2 && chkE m nm sc q.1 o
    | .accLen o => gd (cM e) fun q => q.2.1 == g.cnt && !(("_initial_size" : Str) == q.2.1) && ncall q.1 && isN q.2.2 && chkE m nm sc q.1 o
    | .cmp2 _ _ _ _ _ => false
    | .band _ => false
    | .bor _ => false
    | .bnot _ => false
noncomputable def chkO : Nat → Nm → Sc → Option Expr → Option PE → Bool
  | 0, _, _, _, _ => false
  | m + 1, nm, sc, e, p => match p with
    | none => e.isNone
    | some p => gd e fun e => chkE m nm sc e p
noncomputable def chkL : Nat → Nm → Sc → List Expr → List PE → Bool
  | 0, _, _, _, _ => false
  | m + 1, nm, sc, l, ps => match ps with
    | [] => isN l
    | p :: ps => (match l with | e :: l => nsl e && chkE m nm sc e p && chkL m nm sc l ps | [] => false)
noncomputable def chkT : Nat → Nm → Sc → Expr → PE → Bool
  | 0, _, _, _, _ => false
  | m + 1, nm, sc, e, p => match p with
    | .bnot a => gd (dUn e) fun q => q.1 == .Not && chkT m nm sc q.2 a
    | .band l => gd (dBool e) fun q => q.1 == .And && chkTs m nm sc q.2 l
    | .bor l => gd (dBool e) fun q => q.1 == .Or && chkTs m nm sc q.2 l
    | .cmp1 op a b => gd (dCmp e) fun q => gd (un1 q.2.1) fun o => gd (un1 q.2.2) fun y => o == op && nset y && chkE m nm sc q.1 a && chkE m nm sc y b
    | .cmp2 o₁ o₂ a b c => gd (dCmp e) fun q => gd (un2 q.2.1) fun o => gd (un2 q.2.2) fun y => o.1 == o₁ && o.2 == o₂ && nset y.2 && chkE m nm sc q.1 a && chkE m nm sc y.1 b && chkE m nm sc y.2 c
    | .var i => gd (dNameP e) fun X => okName X.1 && decide ((X.1, i) ∈ sc)
    | .bin op a b => (dBin e).isSome && chkE m nm sc e (.bin op a b)
    | _ => false
noncomputable def chkTs : Nat → Nm → Sc → List Expr → List PE → Bool
  | 0, _, _, _, _ => false
  | m + 1, nm, sc, l, ps => match ps with
    | [] => isN l
    | p :: ps => (match l with | e :: l => chkT m nm sc e p && chkTs m nm sc l ps | [] => false)
end
noncomputable def lc (nm : Nm) (X : Str) : Bool := nm.lookup X == some .local || nm.lookup X == some .cell
noncomputable def tgts : List Expr → Option (List (Str × Pos))
  | [] => some []
  | e :: r => (dNameP e).bind fun q => (tgts r).map (q :: ·)
noncomputable def tgtChk (nm : Nm) (sc : Sc) : List (Str × Pos) → List Nat → Bool
  | [], is => isN is
  | q :: r, is => (match is with | i :: is => decide ((q.1, i) ∈ sc) && lc nm q.1 && tgtChk nm sc r is | [] => false)
noncomputable def isComp : PE → Bool := fun p => match p with | .comp .. => true | _ => false
theorem isComp_ok {p : PE} (h : isComp p = true) : ∃ e x it c, p = .comp e x it c := by
  cases p <;> first | exact Bool.noConfusion h | exact ⟨_, _, _, _, rfl⟩
/-- an assignment to one name -/
noncomputable def sA (s : Stmt) : Option ((Str × Pos) × Expr) := (dAsg s).bind fun q => (un1 q.1).bind fun t => (dNameP t).map fun X => (X, q.2)
theorem sA_ok {s : Stmt} {q} (h : sA s = some q) : ∃ pos, s = .Assign [.Name q.1.1 q.1.2] q.2 pos := by
  obtain ⟨x, h1, h⟩ := bd_ok h
  obtain ⟨y, h2, h⟩ := bd_ok h
  obtain ⟨z, h3, h⟩ := mp_ok h
  cases h
  obtain ⟨pos, e⟩ := dAsg_ok h1
  rw [e, un1_ok h2, dNameP_ok h3]
  exact ⟨pos, rfl⟩
mutual
noncomputable def chkS : Nat → Nm → Sc → Stmt → PS → Bool
  | 0, _, _, _, _ => false
  | m + 1, nm, sc, s, p => match p with
    | .asg i pe => gd (sA s) fun q => decide ((q.1.1, i) ∈ sc) && lc nm q.1.1 && chkE g m nm sc q.2 pe && (match cL q.2 with | some _ => isComp pe | none => nocomp q.2)
    | .asgM i pe => gd (sA s) fun q => decide ((q.1.1, i) ∈ sc) && lc nm q.1.1 && chkE g m nm sc q.2 pe && gd (cL q.2) fun r => isComp pe && !swB (fun x => nm.lookup x) q.1.1 q.1.2 r.scope r.cp
    | .asgT is pe => gd (dAsg s) fun q => gd (un1 q.1) fun t => gd (dTup t) fun ts => gd (tgts ts) fun l => tgtChk nm sc l is && ntup q.2 && nocomp q.2 && chkE g m nm sc q.2 pe
    | .seti i k pe => gd (dAsg s) fun q => gd (un1 q.1) fun t => gd (dSub t) fun r => gd (dNameP r.1) fun X => okName X.1 && decide ((X.1, i) ∈ sc) && nocomp q.2 && chkE g m nm sc q.2 pe && chkE g m nm sc r.2 k
    | .ifs c a b => gd (dIf s) fun q => chkT g m nm sc q.1 c && chkB m nm sc q.2.1 a && chkB m nm sc q.2.2 b
    | .for1 i it b => gd (dFor s) fun q => gd (dNameP q.1) fun X => isN q.2.2.2 && decide ((X.1, i) ∈ sc) && lc nm X.1 && nset q.2.1 && chkE g m nm sc q.2.1 it && chkB m nm sc q.2.2.1 b
    | .ret pe => gd (dRet s) fun q => gd q fun e => chkE g m nm sc e pe
    | .ex pe => gd (dEx s) fun e => nocomp e && chkE g m nm sc e pe
noncomputable def chkB : Nat → Nm → Sc → List Stmt → List PS → Bool
  | 0, _, _, _, _ => false
  | m + 1, nm, sc, l, ps => match ps with
    | [] => isN l
    | p :: ps => (match l with | s :: l => chkS m nm sc s p && chkB m nm sc l ps | [] => false)
end
end Mine
end
section
open PySem PySem.W PySem.Calls PyProof.Rows PySem.Builtin
set_option Elab.async false
set_option linter.unusedVariables false
namespace Mine

noncomputable def FnTab (c : Cx) (F : Nat → Option PF) (g : Gn) (f : Nat) (a : Addr) : Prop :=
  ∃ fd body names sc pf m, F f = some pf ∧ FnIs c a fd body names pf.params sc ∧ chkB g m fd.scope.names sc body pf.body = true
structure TB (c : Cx) (F : Nat → Option PF) (g : Gn) : Prop where
  O : Ok c
  fnv : ∀ f : Fn, globIn c.K f.name = some f.val
  cst : ∀ X d, g.cst X = some d → ∃ v, globIn c.K X = some v ∧ ∀ P ρ, Lay P ρ v d
  pat : ∀ X k, g.pat X = some k → ∃ pa, globIn c.K X = some (.ref pa) ∧ ∀ h, c.K.In h → Pat h pa (if k = 1 then code1 else code2)
  fn : ∀ X f, g.fn X = some f → ∃ a, globIn c.K X = some (.ref a) ∧ isFn c.K a = true ∧ FnTab c F g f a
  cls : globIn c.K g.cls = some (.ref c.C)
  init : ∃ fI, InitK c fI
  kls : ClsK c.K c.C
  app : findIn c.K (.ref c.C) "append" = some (some (.builtin "list.append"))
  meth : ∀ X f, g.meth X = some f → ∃ a, findIn c.K (.ref c.C) X = some (some (.ref a)) ∧ typeIn c.K (.ref a) = some (.type "function") ∧ isFn c.K a = true ∧ FnTab c F g f a
  cnt : ∃ fN, CountK c fN ∧ isFn c.K fN = true
  cntN : g.cnt = "part_count"
  pop : ∃ fN fO, PopK c fN fO ∧ isFn c.K fO = true
  popN : g.pop = "pop"

section
variable {c : Cx} {F : Nat → Option PF} {g : Gn} {n : Nat}
noncomputable abbrev kdN (nm : Nm) : Str → Option NameKind := fun x => nm.lookup x

structure Snd (c : Cx) (F : Nat → Option PF) (g : Gn) (n : Nat) : Prop where
  E : ∀ m nm sc e p, chkE g m nm sc e p = true → ∀ A σ st d st', Rm (3 * n) A → ev F n σ st p = some (d, st') → EvE c A (kdN nm) sc e σ st d st'
  O : ∀ m nm sc e p, chkO g m nm sc e p = true → ∀ A σ st d st', Rm (3 * n) A → evO F n σ st p = some (d, st') → EvO c A (kdN nm) sc e σ st d st'
  L : ∀ m nm sc e p, chkL g m nm sc e p = true → ∀ A σ st d st', Rm (3 * n) A → evs F n σ st p = some (d, st') → EvL c A (kdN nm) sc e σ st d st' ∧ d.length = e.length
  T : ∀ m nm sc e p, chkT g m nm sc e p = true → ∀ A σ st d st', Rm (3 * n) A → evT F n σ st p = some (d, st') → EvT c A (kdN nm) sc e σ st d st'
  And : ∀ m nm sc e p, chkTs g m nm sc e p = true → ∀ A σ st d st', Rm (3 * n) A → evAnd F n σ st p = some (d, st') → EvTs c A (kdN nm) sc .And e σ st d st'
  Or : ∀ m nm sc e p, chkTs g m nm sc e p = true → ∀ A σ st d st', Rm (3 * n) A → evOr F n σ st p = some (d, st') → EvTs c A (kdN nm) sc .Or e σ st d st'
  C : ∀ f a, FnTab c F g f a → ∀ A ds st d st', Rm (3 * n) A → callF F n f ds st = some (d, st') → CallE c A (.ref a) ds st d st'
  X : ∀ m nm sc e p, chkS g m nm sc e p = true → ∀ A σ st fl σ' st', Rm (3 * n) A → exec1 F n σ st p = some (fl, σ', st') → ExS c A (kdN nm) sc e σ st fl σ' st'
  B : ∀ m nm sc e p, chkB g m nm sc e p = true → ∀ A σ st fl σ' st', Rm (3 * n) A → run F n σ st p = some (fl, σ', st') → ExL c A (kdN nm) sc e σ st fl σ' st'

theorem snd0 : Snd c F g 0 := ⟨fun _ _ _ _ _ _ _ _ _ _ _ _ h => bad h, fun _ _ _ _ _ _ _ _ _ _ _ _ h => bad h, fun _ _ _ _ _ _ _ _ _ _ _ _ h => bad h, fun _ _ _ _ _ _ _ _ _ _ _ _ h => bad h,
  fun _ _ _ _ _ _ _ _ _ _ _ _ h => bad h, fun _ _ _ _ _ _ _ _ _ _ _ _ h => bad h, fun _ _ _ _ _ _ _ _ _ h => bad h, fun _ _ _ _ _ _ _ _ _ _ _ _ _ h => bad h, fun _ _ _ _ _ _ _ _ _ _ _ _ _ h => bad h⟩
theorem Rm.dn {n : Nat} {A : Around} (R : Rm (3 * (n + 1)) A) : Rm (3 * n) A := R.le (Nat.mul_le_mul_left 3 (Nat.le_succ n))

theorem sndO (S : Snd c F g n) (m nm sc e p) (hc : chkO g m nm sc e p = true) (A σ st d st') (R : Rm (3 * n) A) (h : evO F (n + 1) σ st p = some (d, st')) : EvO c A (kdN nm) sc e σ st d st' := by
  cases m with
  | zero => exact Bool.noConfusion hc
  | succ m =>
    cases p with
    | none =>
      cases e with
      | some e => exact Bool.noConfusion hc
      | none => cases h; exact o_none
    | some p =>
      obtain ⟨e', h1, hc⟩ := gd_ok hc
      cases h1
      obtain ⟨x, hx, e2⟩ := mp_ok h
      cases e2
      exact o_some (S.E m nm sc _ p hc A σ st _ _ R hx)
theorem sndL (S : Snd c F g n) (m nm sc e p) (hc : chkL g m nm sc e p = true) (A σ st d st') (R : Rm (3 * n) A) (h : evs F (n + 1) σ st p = some (d, st')) : EvL c A (kdN nm) sc e σ st d st' ∧ d.length = e.length := by
  cases m with
  | zero => exact Bool.noConfusion hc
  | succ m =>
    cases p with
    | nil => cases isN_ok hc; cases h; exact ⟨l_nil, rfl⟩
    | cons p ps =>
      cases e with
      | nil => exact Bool.noConfusion hc
      | cons e l =>
        obtain ⟨h1, h2, h3⟩ := an3 hc
        obtain ⟨x, hx, h⟩ := bd_ok h
        obtain ⟨y, hy, e2⟩ := mp_ok h
        cases e2
        obtain ⟨q1, q2⟩ := S.L m nm sc l ps h3 A σ _ _ _ R hy
        exact ⟨l_cons h1 (S.E m nm sc e p h2 A σ st _ _ R hx) q1, congrArg Nat.succ q2⟩
theorem sndAnd (S : Snd c F g n) (m nm sc e p) (hc : chkTs g m nm sc e p = true) (A σ st d st') (R : Rm (3 * n) A) (h : evAnd F (n + 1) σ st p = some (d, st')) : EvTs c A (kdN nm) sc .And e σ st d st' := by
  cases m with
  | zero => exact Bool.noConfusion hc
  | succ m =>
    cases p with
    | nil => cases isN_ok hc; cases h; exact and_nil
    | cons p ps =>
      cases e with
      | nil => exact Bool.noConfusion hc
      | cons e l =>
        obtain ⟨h1, h2⟩ := an2 hc
        obtain ⟨⟨b, s1⟩, hx, h⟩ := bd_ok h
        have he := S.T m nm sc e p h1 A σ st _ _ R hx
        cases b with
        | true => exact and_go he (S.And m nm sc l ps h2 A σ _ _ _ R h)
        | false => cases h; exact and_stop he
theorem sndOr (S : Snd c F g n) (m nm sc e p) (hc : chkTs g m nm sc e p = true) (A σ st d st') (R : Rm (3 * n) A) (h : evOr F (n + 1) σ st p = some (d, st')) : EvTs c A (kdN nm) sc .Or e σ st d st' := by
  cases m with
  | zero => exact Bool.noConfusion hc
  | succ m =>
    cases p with
    | nil => cases isN_ok hc; cases h; exact or_nil
    | cons p ps =>
      cases e with
      | nil => exact Bool.noConfusion hc
      | cons e l =>
        obtain ⟨h1, h2⟩ := an2 hc
        obtain ⟨⟨b, s1⟩, hx, h⟩ := bd_ok h
        have he := S.T m nm sc e p h1 A σ st _ _ R hx
        cases b with
        | false => exact or_go he (S.Or m nm sc l ps h2 A σ _ _ _ R h)
        | true => cases h; exact or_stop he
theorem sndB (S : Snd c F g n) (m nm sc e p) (hc : chkB g m nm sc e p = true) (A σ st fl σ' st') (R : Rm (3 * n) A) (h : run F (n + 1) σ st p = some (fl, σ', st')) : ExL c A (kdN nm) sc e σ st fl σ' st' := by
  cases m with
  | zero => exact Bool.noConfusion hc
  | succ m =>
    cases p with
    | nil => cases isN_ok hc; cases h; exact x_nil
    | cons p ps =>
      cases e with
      | nil => exact Bool.noConfusion hc
      | cons e l =>
        obtain ⟨h1, h2⟩ := an2 hc
        obtain ⟨⟨f1, s1, t1⟩, hx, h⟩ := bd_ok h
        have he := S.X m nm sc e p h1 A σ st _ _ _ R hx
        cases f1 with
        | next => exact x_next he (S.B m nm sc l ps h2 A _ _ _ _ _ R h)
        | ret d => cases h; exact x_ret he
theorem sndC (T : TB c F g) (S : Snd c F g n) (f a) (ht : FnTab c F g f a) (A ds st d st') (R : Rm (3 * (n + 1)) A) (h : callF F (n + 1) f ds st = some (d, st')) : CallE c A (.ref a) ds st d st' := by
  obtain ⟨fd, body, names, sc, pf, m, hF, H, hchk⟩ := ht
  have h : (match F f with
    | some pf => (setAll pf.params ds []).bind fun σ => match D.refsLts 0 ds with
      | true => (run F n σ [] pf.body).bind fun r => match r.1 with
        | .ret d => if D.refsLt 0 d = true then some (d, st) else .none
        | .next => some (.none, st)
      | false => (run F n σ st pf.body).map fun r => match r.1 with
        | .ret d => (d, r.2.2)
        | .next => (.none, r.2.2)
    | .none => .none) = some (d, st') := h
  rw [hF] at h
  obtain ⟨σ, hσ, h⟩ := bd_ok h
  have R' : Rm (3 * n + 1) A := R.le (by omega)
  have hb : ∀ st fl σ' s1, run F n σ st pf.body = some (fl, σ', s1) → ∀ A, Rm (3 * n) A → ExL c A (fun x => fd.scope.names.lookup x) sc body σ st fl σ' s1 := fun st fl σ' s1 hr A RA => S.B m _ _ _ _ hchk A _ _ _ _ _ RA hr
  cases hd : D.refsLts 0 ds with
  | true =>
    rw [hd] at h
    obtain ⟨⟨fl, σ', s1⟩, hr, h⟩ := bd_ok h
    cases fl with
    | next => cases h; exact call_closed (fl := .next) T.O R' H hd hσ rfl (hb _ _ _ _ hr)
    | ret e =>
      cases hr0 : D.refsLt 0 e with
      | true =>
        have h : (if D.refsLt 0 e = true then some (e, st) else .none) = some (d, st') := h
        rw [if_pos hr0] at h; cases h; exact call_closed (fl := .ret _) T.O R' H hd hσ hr0 (hb _ _ _ _ hr)
      | false =>
        have h : (if D.refsLt 0 e = true then some (e, st) else .none) = some (d, st') := h
        rw [if_neg (fun q => Bool.noConfusion (hr0.symm.trans q))] at h; exact bad h
  | false =>
    rw [hd] at h
    obtain ⟨⟨fl, σ', s1⟩, hr, h⟩ := mp_ok h
    cases fl with
    | next => cases h; exact call_open (fl := .next) T.O R' H hσ (hb _ _ _ _ hr)
    | ret e => cases h; exact call_open (fl := .ret _) T.O R' H hσ (hb _ _ _ _ hr)
end
end Mine
end
section
open PySem PySem.W PySem.Calls PyProof.Rows PySem.Builtin
set_option Elab.async false
set_option linter.unusedVariables false
namespace Mine
section
variable {c : Cx} {F : Nat → Option PF} {g : Gn} {n : Nat}

theorem gi_ok {nm : Nm} {X : Str} (h : gi nm X = true) : kdN nm X = some .globalImplicit ∧ okName X = true := by
  unfold gi at h
  simpa using h
theorem t_int {A : Around} {kd : Str → Option NameKind} {sc : List (Str × Nat)} {σ : Vars} {st st₁ : Store} {pos : Pos} {a b : Expr} {op : Operator} {i : Int} (h : EvE c A kd sc (.BinOp a op b pos) σ st (.int i) st₁) : EvT c A kd sc (.BinOp a op b pos) σ st (i != 0) st₁ := by
  intro env fm ρ s F W V Q hQ
  refine wpAny_isTrue_value (h env fm ρ s F W V _ fun v s1 ρ1 W1 A1 l => ?_)
  cases l
  first | exact PySem.PureInt.truthy_int (hQ s1 ρ1 W1 A1) | exact PySem.truthy_int (hQ s1 ρ1 W1 A1) | exact PyProof.Rows.truthy_int (hQ s1 ρ1 W1 A1) | exact PyProof.Rows.RuleU.truthy_int (hQ s1 ρ1 W1 A1) | exact truthy_int (hQ s1 ρ1 W1 A1)
theorem sndT (S : Snd c F g n) (m nm sc e p) (hc : chkT g m nm sc e p = true) (A σ st d st') (R' : Rm (3 * n) A) (h : evT F (n + 1) σ st p = some (d, st')) : EvT c A (kdN nm) sc e σ st d st' := by
  cases m with
  | zero => exact Bool.noConfusion hc
  | succ m =>
    cases p with
    | bnot a =>
      obtain ⟨q, h1, hc⟩ := gd_ok hc
      obtain ⟨p1, rfl⟩ := dUn_ok h1
      obtain ⟨h2, h3⟩ := an2 hc
      obtain ⟨x, hx, e2⟩ := mp_ok h
      cases e2
      rw [eq_of_beq h2]
      exact t_not (S.T m nm sc _ _ h3 A σ st _ _ R' hx)
    | band l =>
      obtain ⟨q, h1, hc⟩ := gd_ok hc
      obtain ⟨p1, rfl⟩ := dBool_ok h1
      obtain ⟨h2, h3⟩ := an2 hc
      rw [eq_of_beq h2]
      exact t_bool (S.And m nm sc _ _ h3 A σ st _ _ R' h)
    | bor l =>
      obtain ⟨q, h1, hc⟩ := gd_ok hc
      obtain ⟨p1, rfl⟩ := dBool_ok h1
      obtain ⟨h2, h3⟩ := an2 hc
      rw [eq_of_beq h2]
      exact t_bool (S.Or m nm sc _ _ h3 A σ st _ _ R' h)
    | cmp1 op a b =>
      obtain ⟨⟨x, os, ys⟩, h1, hc⟩ := gd_ok hc
      obtain ⟨p1, rfl⟩ := dCmp_ok h1
      obtain ⟨o, h2, hc⟩ := gd_ok hc
      cases un1_ok h2
      obtain ⟨y, h3, hc⟩ := gd_ok hc
      cases un1_ok h3
      obtain ⟨h4, h5, h6, h7⟩ := an4 hc
      cases eq_of_beq h4
      obtain ⟨x, hx, h⟩ := bd_ok h
      obtain ⟨y, hy, h⟩ := bd_ok h
      obtain ⟨r, hr, e2⟩ := mp_ok h
      cases e2
      exact t_cmp R' h5 (S.E m nm sc _ _ h6 A σ st _ _ R' hx) (S.E m nm sc _ _ h7 A σ _ _ _ R' hy) hr
    | cmp2 o₁ o₂ a b c' =>
      obtain ⟨⟨x, os, ys⟩, h1, hc⟩ := gd_ok hc
      obtain ⟨p1, rfl⟩ := dCmp_ok h1
      obtain ⟨o, h2, hc⟩ := gd_ok hc
      cases un2_ok h2
      obtain ⟨y, h3, hc⟩ := gd_ok hc
      cases un2_ok h3
      obtain ⟨h4, h4', h5, h6, h7, h8⟩ := an6 hc
      cases eq_of_beq h4
      cases eq_of_beq h4'
      obtain ⟨x, hx, h⟩ := bd_ok h
      obtain ⟨y, hy, h⟩ := bd_ok h
      obtain ⟨r, hr, h⟩ := bd_ok h
      cases r with
      | true =>
        obtain ⟨z, hz, h⟩ := bd_ok h
        obtain ⟨q, hq, e2⟩ := mp_ok h
        cases e2
        exact t_chain R' h5 (S.E m nm sc _ _ h6 A σ st _ _ R' hx) (S.E m nm sc _ _ h7 A σ _ _ _ R' hy) hr ⟨S.E m nm sc _ _ h8 A σ _ _ _ R' hz, hq⟩
      | false =>
        cases h
        exact t_chain (z := .none) R' h5 (S.E m nm sc _ _ h6 A σ st _ _ R' hx) (S.E m nm sc _ _ h7 A σ _ _ _ R' hy) hr ⟨rfl, rfl⟩
    | var i =>
      obtain ⟨⟨X, q⟩, h1, hc⟩ := gd_ok hc
      cases dNameP_ok h1
      obtain ⟨h2, h3⟩ := an2 hc
      obtain ⟨x, hx, e2⟩ := mp_ok h
      cases e2
      obtain ⟨y, hy, hb⟩ := bd_ok hx
      cases y <;> first | exact bad hb | (cases hb; exact t_var h2 (of_decide_eq_true h3) hy)
    | bin op a b =>
      obtain ⟨h1, hc⟩ := an2 hc
      obtain ⟨q, h1⟩ := Option.isSome_iff_exists.mp h1
      obtain ⟨p1, rfl⟩ := dBin_ok h1
      obtain ⟨⟨x, s1⟩, hx, h⟩ := bd_ok h
      have hE := S.E m nm sc _ _ hc A σ st _ _ R' hx
      cases x <;> first | exact bad h | (cases h; exact t_int hE)
    | _ => exact Bool.noConfusion hc

/-- a comprehension's parts -/
theorem sndComp (S : Snd c F g n) {m : Nat} {nm : Nm} {sc : Sc} {e : Expr} {ep it : PE} {ix : Nat} {cc : Option PE}
    (hc : chkE g (m + 1) nm sc e (.comp ep ix it cc) = true) {A : Around} {σ : Vars} {st st' : Store} {d : D} (R : Rm (3 * n) A) (h : ev F (n + 1) σ st (.comp ep ix it cc) = some (d, st')) :
    ∃ q : LcD, cL e = some q ∧ ∃ out x st₁ ds testF eltF, d = .lst out ∧ CC (kdN nm) sc (compSc nm sc q.scope q.X ix) q.scope q.X ix ∧ (∀ env x, foldedSetIterable q.iter env x = pure x) ∧ EvE c A (kdN nm) sc q.iter σ st x st₁ ∧ items x = some ds ∧ ds.length ≤ lid ∧ compGo testF eltF ix σ ds st₁ [] = some (out, st') ∧
      (∀ σ st b st', testF σ st = some (b, st') → TestOk c A (relK (kdN nm) q.scope.names) (compSc nm sc q.scope q.X ix) q.ifs σ st b st') ∧ (∀ σ st d st', eltF σ st = some (d, st') → EvE c A (relK (kdN nm) q.scope.names) (compSc nm sc q.scope q.X ix) q.el σ st d st') := by
  obtain ⟨q, hq, hc⟩ := gd_ok hc
  refine ⟨q, hq, ?_⟩
  obtain ⟨h1, h2, h3, h4, h5⟩ := an5 hc
  obtain ⟨x, hx, h⟩ := bd_ok h
  obtain ⟨ds, hds, h⟩ := bd_ok h
  cases hlen : Nat.ble ds.length lid with
  | false => rw [hlen] at h; exact bad h
  | true =>
    rw [hlen] at h
    obtain ⟨⟨out, s2⟩, hg, e2⟩ := mp_ok h
    cases e2
    refine ⟨out, _, _, ds, _, _, rfl, compChk_ok h1, fun env x => fsi h2 env x, S.E m nm sc _ _ h3 A σ st _ _ R hx, hds, Nat.le_of_ble_eq_true hlen, hg, fun σ st b st' e => ?_, fun σ st d st' e => S.E m (relNm nm q.scope.names) _ _ _ h4 A σ st _ _ R e⟩
    cases cc with
    | none => rw [isN_ok h5]; cases e; exact test_nil
    | some c' =>
      obtain ⟨t, ht, h5⟩ := gd_ok h5
      rw [un1_ok ht]
      exact test_one (S.T m (relNm nm q.scope.names) _ _ _ h5 A σ st _ _ R e)

theorem lc_ok {nm : Nm} {X : Str} (h : lc nm X = true) : kdN nm X = some .local ∨ kdN nm X = some .cell := by
  unfold lc at h
  simpa using h
theorem tgts_ok : ∀ {ts : List Expr} {l : List (Str × Pos)}, tgts ts = some l → ts = l.map nmE
  | [], l, h => by cases h; rfl
  | e :: r, l, h => by
    obtain ⟨q, h1, h⟩ := bd_ok h
    obtain ⟨l', e, rfl⟩ := mp_ok h
    rw [tgts_ok e, dNameP_ok h1]; rfl
theorem tgtChk_ok {nm : Nm} {sc : Sc} : ∀ {l : List (Str × Pos)} {is : List Nat}, tgtChk nm sc l is = true → TgtOk (kdN nm) sc l is
  | [], is, h => by cases isN_ok h; trivial
  | q :: r, is, h => by
    cases is with
    | nil => exact Bool.noConfusion h
    | cons i is =>
      obtain ⟨h1, h2, h3⟩ := an3 h
      exact ⟨of_decide_eq_true h1, lc_ok h2, tgtChk_ok h3⟩
theorem setAll_len : ∀ {is : List Nat} {ds : List D} {σ σ' : Vars}, setAll is ds σ = some σ' → ds.length = is.length
  | [], ds, _, _, h => by
    cases ds with
    | nil => rfl
    | cons => exact bad h
  | i :: is, ds, σ, σ', h => by
    cases ds with
    | nil => exact bad h
    | cons d ds => exact congrArg Nat.succ (setAll_len (σ := σ.set i d) h)
end
end Mine
end
section
open PySem PySem.W PySem.Calls PyProof.Rows PySem.Builtin
set_option Elab.async false
set_option linter.unusedVariables false
namespace Mine
section
variable {c : Cx} {F : Nat → Option PF} {g : Gn} {n : Nat}

theorem ble_no {b : Bool} (h : (!b) = true) : b = false := by
  cases b with
  | false => rfl
  | true => exact Bool.noConfusion h
theorem sndAsg (SS : ∀ k, k ≤ n → Snd c F g k) (S : Snd c F g n) {m nm sc s i pe} (hc : chkS g (m + 1) nm sc s (.asg i pe) = true) {A σ st fl σ' st'} (R' : Rm (3 * n) A) (h : exec1 F (n + 1) σ st (.asg i pe) = some (fl, σ', st')) : ExS c A (kdN nm) sc s σ st fl σ' st' := by
  obtain ⟨⟨⟨X, q⟩, e⟩, h1, hc⟩ := gd_ok hc
  obtain ⟨pos, rfl⟩ := sA_ok h1
  obtain ⟨h1, h2, h3, h4⟩ := an4 hc
  have h1 := of_decide_eq_true h1
  obtain ⟨x, hx, e2⟩ := mp_ok h
  cases e2
  have hE := S.E m nm sc _ _ h3 A σ st _ _ R' hx
  cases hcl : cL e with
  | none =>
    have h4 : (match cL e with | some _ => isComp pe | none => nocomp e) = true := h4
    rw [hcl] at h4
    exact x_asg h1 (lc_ok h2) (fun env _ _ => nocomp_swap h4 _ _ _) hE
  | some r =>
    have h4 : (match cL e with | some _ => isComp pe | none => nocomp e) = true := h4
    rw [hcl] at h4
    cases cL_ok hcl
    obtain ⟨ep, ix, it, cc, rfl⟩ := isComp_ok h4
    cases hs : swB (kdN nm) X q r.scope r.cp with
    | true =>
      cases m with
      | zero => exact Bool.noConfusion h3
      | succ m =>
        cases n with
        | zero => exact bad hx
        | succ n =>
          have R2 : Rm (3 * n) A := R'.dn
          obtain ⟨r', er, out, y, s1, ds, testF, eltF, ed, q1, q2, q3, q4, q5, q6, q7, q8⟩ := sndComp (d := x.1) (st' := x.2) (SS n (Nat.le_succ n)) h3 R2 hx
          cases hcl.symm.trans er
          rw [ed]
          exact x_swap R2 h1 (lc_ok h2) hs q1 q2 q3 q4 q5 q6 q7 q8
    | false => exact x_asg h1 (lc_ok h2) (fun env e1 e2 => (swap_is e1 e2).trans (congrArg pure hs)) hE
theorem sndAsgM (SS : ∀ k, k ≤ n → Snd c F g k) {m nm sc s i pe} (hc : chkS g (m + 1) nm sc s (.asgM i pe) = true) {A σ st fl σ' st'} (R' : Rm (3 * n) A) (h : exec1 F (n + 1) σ st (.asgM i pe) = some (fl, σ', st')) : ExS c A (kdN nm) sc s σ st fl σ' st' := by
  obtain ⟨⟨⟨X, q⟩, e⟩, h1, hc⟩ := gd_ok hc
  obtain ⟨pos, rfl⟩ := sA_ok h1
  obtain ⟨h1, h2, h3, h4⟩ := an4 hc
  have h1 := of_decide_eq_true h1
  obtain ⟨x, hx, h⟩ := bd_ok h
  obtain ⟨r, hcl, h4⟩ := gd_ok h4
  cases cL_ok hcl
  obtain ⟨h4, hs⟩ := an2 h4
  obtain ⟨ep, ix, it, cc, rfl⟩ := isComp_ok h4
  cases m with
  | zero => exact Bool.noConfusion h3
  | succ m =>
    cases n with
    | zero => exact bad hx
    | succ n =>
      have R2 : Rm (3 * n) A := R'.dn
      obtain ⟨r', er, out, y, s1, ds, testF, eltF, ed, q1, q2, q3, q4, q5, q6, q7, q8⟩ := sndComp (d := x.1) (st' := x.2) (SS n (Nat.le_succ n)) h3 R2 hx
      cases hcl.symm.trans er
      obtain ⟨x1, x2⟩ := x
      cases (show x1 = _ from ed)
      cases h
      exact x_asgM h1 (lc_ok h2) (fun env e1 e2 => (swap_is e1 e2).trans (congrArg pure (ble_no hs))) (new_comp R2 q1 q2 q3 q4 q5 q6 q7 q8)
theorem sndAsgT (S : Snd c F g n) {m nm sc s is pe} (hc : chkS g (m + 1) nm sc s (.asgT is pe) = true) {A σ st fl σ' st'} (R' : Rm (3 * n) A) (h : exec1 F (n + 1) σ st (.asgT is pe) = some (fl, σ', st')) : ExS c A (kdN nm) sc s σ st fl σ' st' := by
  obtain ⟨⟨ts, e⟩, h1, hc⟩ := gd_ok hc
  obtain ⟨pos, rfl⟩ := dAsg_ok h1
  obtain ⟨t, ht, hc⟩ := gd_ok hc
  cases un1_ok ht
  obtain ⟨l, hl, hc⟩ := gd_ok hc
  obtain ⟨k, p, rfl⟩ := dTup_ok hl
  obtain ⟨l', hl', hc⟩ := gd_ok hc
  cases tgts_ok hl'
  obtain ⟨h1, h2, h3, h4⟩ := an4 hc
  obtain ⟨⟨x1, s1⟩, hx, h⟩ := bd_ok h
  have hE := S.E m nm sc _ _ h4 A σ st _ _ R' hx
  cases x1 <;> first | exact bad h | skip
  obtain ⟨s2, hs2, e2⟩ := mp_ok h
  cases e2
  exact x_asgT R' (tgtChk_ok h1) h2 h3 hE hs2 (setAll_len hs2)
theorem sndSeti (S : Snd c F g n) {m nm sc s i k pe} (hc : chkS g (m + 1) nm sc s (.seti i k pe) = true) {A σ st fl σ' st'} (R' : Rm (3 * n) A) (h : exec1 F (n + 1) σ st (.seti i k pe) = some (fl, σ', st')) : ExS c A (kdN nm) sc s σ st fl σ' st' := by
  obtain ⟨⟨ts, e⟩, h1, hc⟩ := gd_ok hc
  obtain ⟨pos, rfl⟩ := dAsg_ok h1
  obtain ⟨t, ht, hc⟩ := gd_ok hc
  cases un1_ok ht
  obtain ⟨⟨a, b⟩, hl, hc⟩ := gd_ok hc
  obtain ⟨p, rfl⟩ := dSub_ok hl
  obtain ⟨⟨X, px⟩, hl', hc⟩ := gd_ok hc
  cases dNameP_ok hl'
  obtain ⟨h1, h2, h3, h4, h5⟩ := an5 hc
  obtain ⟨⟨x1, s1⟩, hx, h⟩ := bd_ok h
  obtain ⟨⟨y1, s2⟩, hy, h⟩ := bd_ok h
  have hI := S.E m nm sc _ _ h5 A σ _ _ _ R' hy
  have hV := S.E m nm sc _ _ h4 A σ st _ _ R' hx
  obtain ⟨o, hr, h⟩ := bd_ok h
  obtain ⟨q, hq, h⟩ := bd_ok h
  obtain ⟨k, hk, h⟩ := bd_ok h
  dsimp only at h hk hq
  have h6 := (if_ok h).1
  have h7 := (if_ok h).2
  obtain ⟨rfl, hl⟩ := getMl_ok hq
  cases dI_ok hk
  cases h7
  exact x_seti h1 (of_decide_eq_true h2) h3 hV hI hr hl h6.1 h6.2.1 h6.2.2
theorem sndX (SS : ∀ k, k ≤ n → Snd c F g k) (m nm sc s p) (hc : chkS g m nm sc s p = true) (A σ st fl σ' st') (R' : Rm (3 * n) A) (h : exec1 F (n + 1) σ st p = some (fl, σ', st')) : ExS c A (kdN nm) sc s σ st fl σ' st' := by
  have S := SS n (Nat.le_refl n)
  cases m with
  | zero => exact Bool.noConfusion hc
  | succ m =>
    cases p with
    | asg i pe => exact sndAsg SS S hc R' h
    | asgM i pe => exact sndAsgM SS hc R' h
    | asgT is pe => exact sndAsgT S hc R' h
    | seti i k pe => exact sndSeti S hc R' h
    | ifs c' a b =>
      obtain ⟨q, h1, hc⟩ := gd_ok hc
      obtain ⟨pos, rfl⟩ := dIf_ok h1
      obtain ⟨h1, h2, h3⟩ := an3 hc
      obtain ⟨⟨b, s1⟩, hx, h⟩ := bd_ok h
      refine x_if (S.T m nm sc _ _ h1 A σ st _ _ R' hx) ?_
      cases b with
      | true => exact S.B m nm sc _ _ h2 A _ _ _ _ _ R' h
      | false => exact S.B m nm sc _ _ h3 A _ _ _ _ _ R' h
    | for1 i it b =>
      obtain ⟨⟨t, e, x, el⟩, h1, hc⟩ := gd_ok hc
      obtain ⟨pos, rfl⟩ := dFor_ok h1
      obtain ⟨⟨X, px⟩, ht, hc⟩ := gd_ok hc
      cases dNameP_ok ht
      obtain ⟨h0, g1, h2, h3, h4, h5⟩ := an6 hc
      cases isN_ok h0
      obtain ⟨x, hx, h⟩ := bd_ok h
      obtain ⟨ds, hds, h⟩ := bd_ok h
      exact x_for R' (of_decide_eq_true g1) (lc_ok h2) (fun env x => fsi h3 env x) (S.E m nm sc _ _ h4 A σ st _ _ R' hx) hds h fun σ st fl σ' st' hb => S.B m nm sc _ _ h5 A _ _ _ _ _ R' hb
    | ret pe =>
      obtain ⟨q, h1, hc⟩ := gd_ok hc
      obtain ⟨pos, rfl⟩ := dRet_ok h1
      obtain ⟨e, h1, hc⟩ := gd_ok hc
      cases h1
      obtain ⟨x, hx, e2⟩ := mp_ok h
      cases e2
      exact x_return (S.E m nm sc _ _ hc A σ st _ _ R' hx)
    | ex pe =>
      obtain ⟨q, h1, hc⟩ := gd_ok hc
      obtain ⟨pos, rfl⟩ := dEx_ok h1
      obtain ⟨h1, h2⟩ := an2 hc
      obtain ⟨⟨x, s1⟩, hx, h⟩ := bd_ok h
      have hE := S.E m nm sc _ _ h2 A σ st _ _ R' hx
      cases x <;> first | exact bad h | skip
      cases h
      exact x_expr hE trivial fun env => nocomp_swap h1 _ _ _
end
end Mine
end
section
open PySem PySem.W PySem.Calls PyProof.Rows PySem.Builtin
set_option Elab.async false
set_option linter.unusedVariables false
namespace Mine
section
variable {c : Cx} {F : Nat → Option PF} {g : Gn} {n : Nat} {m : Nat} {nm : Nm} {sc : Sc} {e : Expr} {A : Around} {σ : Vars} {st st' : Store} {d : D}

theorem s_lit (T : TB c F g) {x : D} (hc : chkE g (m + 1) nm sc e (.lit x) = true) (h : ev F (n + 1) σ st (.lit x) = some (d, st')) : EvE c A (kdN nm) sc e σ st d st' := by
  cases h
  replace hc : (match dCst e with
      | some k => litOk k d
      | none => gd (dNameP e) fun X => gi nm X.1 && gd (g.cst X.1) fun d' => sameD d' d) = true := hc
  generalize hk : dCst e = o at hc
  cases o with
  | some k =>
    obtain ⟨a, b, rfl⟩ := dCst_ok hk
    exact e_lit (litOk_ok hc)
  | none =>
    obtain ⟨⟨X, p⟩, h1, hc⟩ := gd_ok hc
    cases dNameP_ok h1
    obtain ⟨h1, hc⟩ := an2 hc
    obtain ⟨g1, g2⟩ := gi_ok h1
    obtain ⟨d', h2, hc⟩ := gd_ok hc
    obtain ⟨v, q1, q2⟩ := T.cst _ _ h2
    cases sameD_ok hc
    exact e_glob T.O g1 q1 g2 fun P ρ => q2 P ρ
theorem s_var {i : Nat} (hc : chkE g (m + 1) nm sc e (.var i) = true) (h : ev F (n + 1) σ st (.var i) = some (d, st')) : EvE c A (kdN nm) sc e σ st d st' := by
  obtain ⟨⟨X, p⟩, h1, kc⟩ := gd_ok hc
  clear hc
  cases dNameP_ok h1
  obtain ⟨h1, h2⟩ := an2 kc
  obtain ⟨x, hx, e2⟩ := mp_ok h
  cases e2
  exact e_var h1 (of_decide_eq_true h2) hx
theorem s_bin (S : Snd c F g n) (R' : Rm (3 * n) A) {op a b} (hc : chkE g (m + 1) nm sc e (.bin op a b) = true) (h : ev F (n + 1) σ st (.bin op a b) = some (d, st')) : EvE c A (kdN nm) sc e σ st d st' := by
  obtain ⟨⟨x, o, y⟩, h1, kc⟩ := gd_ok hc
  clear hc
  obtain ⟨p, rfl⟩ := dBin_ok h1
  obtain ⟨h2, h3, h4⟩ := an3 kc
  cases eq_of_beq h2
  obtain ⟨x, hx, h⟩ := bd_ok h
  obtain ⟨y, hy, h⟩ := bd_ok h
  obtain ⟨r, hr, e2⟩ := mp_ok h
  cases e2
  exact e_bin (S.E m nm sc _ _ h3 A σ st _ _ R' hx) (S.E m nm sc _ _ h4 A σ _ _ _ R' hy) hr
theorem s_neg (S : Snd c F g n) (R' : Rm (3 * n) A) {a} (hc : chkE g (m + 1) nm sc e (.neg a) = true) (h : ev F (n + 1) σ st (.neg a) = some (d, st')) : EvE c A (kdN nm) sc e σ st d st' := by
  obtain ⟨⟨o, x⟩, h1, kc⟩ := gd_ok hc
  clear hc
  obtain ⟨p, rfl⟩ := dUn_ok h1
  obtain ⟨h2, h3⟩ := an2 kc
  cases eq_of_beq h2
  obtain ⟨⟨x, s1⟩, hx, h⟩ := bd_ok h
  have hE := S.E m nm sc _ _ h3 A σ st _ _ R' hx
  cases x <;> first | exact bad h | (cases h; exact e_neg hE)
theorem s_cmp1 (S : Snd c F g n) (R' : Rm (3 * n) A) {op a b} (hc : chkE g (m + 1) nm sc e (.cmp1 op a b) = true) (h : ev F (n + 1) σ st (.cmp1 op a b) = some (d, st')) : EvE c A (kdN nm) sc e σ st d st' := by
  obtain ⟨⟨x, os, ys⟩, h1, kc⟩ := gd_ok hc
  clear hc
  obtain ⟨p1, rfl⟩ := dCmp_ok h1
  obtain ⟨o, h2, kc⟩ := gd_ok kc
  cases un1_ok h2
  obtain ⟨y, h3, kc⟩ := gd_ok kc
  cases un1_ok h3
  obtain ⟨h4, h5, h6, h7⟩ := an4 kc
  cases eq_of_beq h4
  obtain ⟨x, hx, h⟩ := bd_ok h
  obtain ⟨y, hy, h⟩ := bd_ok h
  obtain ⟨r, hr, e2⟩ := mp_ok h
  cases e2
  exact e_cmp R' h5 (S.E m nm sc _ _ h6 A σ st _ _ R' hx) (S.E m nm sc _ _ h7 A σ _ _ _ R' hy) hr
theorem s_ite (S : Snd c F g n) (R' : Rm (3 * n) A) {q a b} (hc : chkE g (m + 1) nm sc e (.ite q a b) = true) (h : ev F (n + 1) σ st (.ite q a b) = some (d, st')) : EvE c A (kdN nm) sc e σ st d st' := by
  obtain ⟨⟨t, x, y⟩, h1, kc⟩ := gd_ok hc
  clear hc
  obtain ⟨p1, rfl⟩ := dIte_ok h1
  obtain ⟨h2, h3, h4⟩ := an3 kc
  obtain ⟨⟨b, s1⟩, hx, h⟩ := bd_ok h
  refine e_ite (S.T m nm sc _ _ h2 A σ st _ _ R' hx) ?_
  cases b with
  | true => exact S.E m nm sc _ _ h3 A σ _ _ _ R' h
  | false => exact S.E m nm sc _ _ h4 A σ _ _ _ R' h
theorem s_idx (S : Snd c F g n) (R' : Rm (3 * n) A) {a i} (hc : chkE g (m + 1) nm sc e (.idx a i) = true) (h : ev F (n + 1) σ st (.idx a i) = some (d, st')) : EvE c A (kdN nm) sc e σ st d st' := by
  obtain ⟨⟨x, y⟩, h1, kc⟩ := gd_ok hc
  clear hc
  obtain ⟨p1, rfl⟩ := dSub_ok h1
  obtain ⟨h2, h3, h4⟩ := an3 kc
  obtain ⟨x, hx, h⟩ := bd_ok h
  obtain ⟨y, hy, h⟩ := bd_ok h
  obtain ⟨r, hr, e2⟩ := mp_ok h
  cases e2
  exact e_idx h2 (S.E m nm sc _ _ h3 A σ st _ _ R' hx) (S.E m nm sc _ _ h4 A σ _ _ _ R' hy) hr
theorem s_slc (S : Snd c F g n) (R' : Rm (3 * n) A) {a lo hi} (hc : chkE g (m + 1) nm sc e (.slc a lo hi) = true) (h : ev F (n + 1) σ st (.slc a lo hi) = some (d, st')) : EvE c A (kdN nm) sc e σ st d st' := by
  obtain ⟨⟨x, y⟩, h1, kc⟩ := gd_ok hc
  clear hc
  obtain ⟨p1, rfl⟩ := dSub_ok h1
  obtain ⟨⟨l, u, t⟩, h1, kc⟩ := gd_ok kc
  obtain ⟨p2, rfl⟩ := dSlc_ok h1
  obtain ⟨h1, h2, h3, h4⟩ := an4 kc
  cases t with
  | some t => exact Bool.noConfusion h1
  | none =>
    obtain ⟨x, hx, h⟩ := bd_ok h
    obtain ⟨y, hy, h⟩ := bd_ok h
    obtain ⟨z, hz, h⟩ := bd_ok h
    obtain ⟨r, hr, e2⟩ := mp_ok h
    cases e2
    exact e_slc (S.E m nm sc _ _ h2 A σ st _ _ R' hx) (S.O m nm sc _ _ h3 A σ _ _ _ R' hy) (S.O m nm sc _ _ h4 A σ _ _ _ R' hz) hr
theorem s_tup (S : Snd c F g n) (R' : Rm (3 * n) A) {l} (hc : chkE g (m + 1) nm sc e (.tup l) = true) (h : ev F (n + 1) σ st (.tup l) = some (d, st')) : EvE c A (kdN nm) sc e σ st d st' := by
  obtain ⟨xs, h1, kc⟩ := gd_ok hc
  clear hc
  obtain ⟨a, b, rfl⟩ := dTup_ok h1
  obtain ⟨h1, h2⟩ := an2 kc
  obtain ⟨x, hx, e2⟩ := mp_ok h
  cases e2
  obtain ⟨q1, q2⟩ := S.L m nm sc _ _ h2 A σ st _ _ R' hx
  exact e_tup q1 (of_decide_eq_true h1) q2
theorem s_lst (S : Snd c F g n) (R' : Rm (3 * n) A) {l} (hc : chkE g (m + 1) nm sc e (.lst l) = true) (h : ev F (n + 1) σ st (.lst l) = some (d, st')) : EvE c A (kdN nm) sc e σ st d st' := by
  obtain ⟨xs, h1, kc⟩ := gd_ok hc
  clear hc
  obtain ⟨a, rfl⟩ := dLst_ok h1
  obtain ⟨h1, h2⟩ := an2 kc
  obtain ⟨x, hx, e2⟩ := mp_ok h
  cases e2
  obtain ⟨q1, q2⟩ := S.L m nm sc _ _ h2 A σ st _ _ R' hx
  exact e_lst q1 (of_decide_eq_true h1) q2
theorem s_comp (S : Snd c F g n) (R' : Rm (3 * n) A) {ep ix it cc} (hc : chkE g (m + 1) nm sc e (.comp ep ix it cc) = true) (h : ev F (n + 1) σ st (.comp ep ix it cc) = some (d, st')) : EvE c A (kdN nm) sc e σ st d st' := by
  obtain ⟨r, er, out, y, s1, ds, testF, eltF, ed, q1, q2, q3, q4, q5, q6, q7, q8⟩ := sndComp S hc R' h
  cases cL_ok er
  rw [ed]
  exact (new_comp R' q1 q2 q3 q4 q5 q6 q7 q8).val
theorem s_fn (T : TB c F g) (S : Snd c F g n) (R' : Rm (3 * n) A) {f l} (hc : chkE g (m + 1) nm sc e (.fn f l) = true) (h : ev F (n + 1) σ st (.fn f l) = some (d, st')) : EvE c A (kdN nm) sc e σ st d st' := by
  obtain ⟨⟨X, xs⟩, h1, kc⟩ := gd_ok hc
  clear hc
  obtain ⟨p, p', rfl, h2⟩ := cN_ok h1
  obtain ⟨g1, g2⟩ := gi_ok h2
  obtain ⟨h1, h3, h4⟩ := an3 kc
  cases (show X = _ from eq_of_beq h1)
  obtain ⟨x, hx, h⟩ := bd_ok h
  obtain ⟨r, hr, e2⟩ := mp_ok h
  cases e2
  exact e_fn T.O R' g1 (T.fnv _) g2 h3 (S.L m nm sc _ _ h4 A σ st _ _ R' hx).1 hr
theorem s_me (S : Snd c F g n) (R' : Rm (3 * n) A) {k o l} (hc : chkE g (m + 1) nm sc e (.me k o l) = true) (h : ev F (n + 1) σ st (.me k o l) = some (d, st')) : EvE c A (kdN nm) sc e σ st d st' := by
  obtain ⟨⟨x, X, xs⟩, h1, kc⟩ := gd_ok hc
  clear hc
  obtain ⟨ap, pos, rfl, h5⟩ := cM_ok h1
  obtain ⟨h1, h2, h3, h4, h6, h7⟩ := an6 kc
  obtain ⟨x, hx, h⟩ := bd_ok h
  obtain ⟨y, hy, h⟩ := bd_ok h
  obtain ⟨r, hr, e2⟩ := mp_ok h
  cases e2
  exact e_me (eq_of_beq h1) h2 h3 (of_decide_eq_true h4) h5 (S.E m nm sc _ _ h6 A σ st _ _ R' hx) (S.L m nm sc _ _ h7 A σ _ _ _ R' hy).1 hr
theorem s_sub (T : TB c F g) (S : Snd c F g n) (R' : Rm (3 * n) A) {k a b} (hc : chkE g (m + 1) nm sc e (.sub k a b) = true) (h : ev F (n + 1) σ st (.sub k a b) = some (d, st')) : EvE c A (kdN nm) sc e σ st d st' := by
  obtain ⟨⟨x, Y, xs⟩, h1, kc⟩ := gd_ok hc
  clear hc
  obtain ⟨ap, pos, rfl, h6⟩ := cM_ok h1
  obtain ⟨⟨X, px⟩, h1, kc⟩ := gd_ok kc
  cases dNameP_ok h1
  obtain ⟨⟨y, z⟩, h1, kc⟩ := gd_ok kc
  cases un2_ok h1
  obtain ⟨h1, h2, h3, h4, h5, h7, h8⟩ := an7 kc
  cases (show Y = _ from eq_of_beq h1)
  obtain ⟨g1, g2⟩ := gi_ok h2
  obtain ⟨pa, q1, q2⟩ := T.pat _ _ (eq_of_beq h3)
  obtain ⟨⟨x, s1⟩, hx, h⟩ := bd_ok h
  obtain ⟨⟨y, s2⟩, hy, h⟩ := bd_ok h
  have hA := S.E m nm sc _ _ h7 A σ st _ _ R' hx
  have hB := S.E m nm sc _ _ h8 A σ _ _ _ R' hy
  clear hx hy
  cases x <;> first | exact bad h | skip
  cases y <;> first | exact bad h | skip
  obtain ⟨z, hz, e2⟩ := mp_ok h
  cases e2
  exact e_sub T.O g1 q1 g2 h4 h5 h6 q2 hA hB hz
theorem s_call (T : TB c F g) (S : Snd c F g n) (R' : Rm (3 * n) A) {f l} (hc : chkE g (m + 1) nm sc e (.call f l) = true) (h : ev F (n + 1) σ st (.call f l) = some (d, st')) : EvE c A (kdN nm) sc e σ st d st' := by
  obtain ⟨⟨X, xs⟩, h1, kc⟩ := gd_ok hc
  clear hc
  obtain ⟨p, p', rfl, h2⟩ := cN_ok h1
  obtain ⟨g1, g2⟩ := gi_ok h2
  obtain ⟨h1, h3, h4⟩ := an3 kc
  obtain ⟨a, q1, q2, q3⟩ := T.fn _ _ (eq_of_beq h1)
  obtain ⟨x, hx, h⟩ := bd_ok h
  exact e_call T.O g1 q1 q2 g2 h3 (S.L m nm sc _ _ h4 A σ st _ _ R' hx).1 (S.C _ a q3 A _ _ _ _ R' h)
theorem s_acc0 (T : TB c F g) (R' : Rm (3 * (n + 1)) A) (hc : chkE g (m + 1) nm sc e .acc0 = true) (h : ev F (n + 1) σ st .acc0 = some (d, st')) : EvE c A (kdN nm) sc e σ st d st' := by
  obtain ⟨⟨X, xs⟩, h1, kc⟩ := gd_ok hc
  clear hc
  obtain ⟨p, p', rfl, h2⟩ := cN_ok h1
  obtain ⟨g1, g2⟩ := gi_ok h2
  obtain ⟨h1, h3⟩ := an2 kc
  cases (show X = _ from eq_of_beq h1)
  cases (show xs = _ from isN_ok h3)
  cases h
  obtain ⟨fI, hI⟩ := T.init
  exact e_acc0 (n := 3 * n + 1) T.O (R'.le (by omega)) hI g1 T.cls g2
theorem s_meth (T : TB c F g) (S : Snd c F g n) (R' : Rm (3 * n) A) {f o l} (hc : chkE g (m + 1) nm sc e (.meth f o l) = true) (h : ev F (n + 1) σ st (.meth f o l) = some (d, st')) : EvE c A (kdN nm) sc e σ st d st' := by
  obtain ⟨⟨x, X, xs⟩, h1, kc⟩ := gd_ok hc
  clear hc
  obtain ⟨ap, pos, rfl, h6⟩ := cM_ok h1
  obtain ⟨h1, h2, h3, h4, h5, h7, h8⟩ := an7 kc
  obtain ⟨a, q1, q2, q3, q4⟩ := T.meth _ _ (eq_of_beq h1)
  obtain ⟨⟨x, s1⟩, hx, h⟩ := bd_ok h
  have hO := S.E m nm sc _ _ h7 A σ st _ _ R' hx
  obtain ⟨⟨i, es⟩, hq, kh⟩ := bd_ok h
  clear h
  obtain ⟨rfl, hes⟩ := getAcc_ok (show getAcc s1 x = _ from hq)
  dsimp only at kh hes
  obtain ⟨y, hy, kh⟩ := bd_ok kh
  exact e_meth T.O T.kls q1 q2 q3 (ble_no h2) h3 h4 (of_decide_eq_true h5) h6 hO hes (S.L m nm sc _ _ h8 A σ _ _ _ R' hy).1 (S.C _ a q4 A _ _ _ _ R' kh)
theorem s_append (T : TB c F g) (S : Snd c F g n) (R' : Rm (3 * n) A) {o a} (hc : chkE g (m + 1) nm sc e (.accAppend o a) = true) (h : ev F (n + 1) σ st (.accAppend o a) = some (d, st')) : EvE c A (kdN nm) sc e σ st d st' := by
  obtain ⟨⟨x, X, xs⟩, h1, kc⟩ := gd_ok hc
  clear hc
  obtain ⟨ap, pos, rfl, h6⟩ := cM_ok h1
  obtain ⟨y, h1, kc⟩ := gd_ok kc
  cases (show xs = _ from un1_ok h1)
  obtain ⟨h1, h2, h3, h4, h5⟩ := an5 kc
  cases (show X = _ from eq_of_beq h1)
  obtain ⟨⟨x, s1⟩, hx, h⟩ := bd_ok h
  have hO := S.E m nm sc _ _ h4 A σ st _ _ R' hx
  obtain ⟨⟨i, es⟩, hq, kh⟩ := bd_ok h
  clear h
  obtain ⟨rfl, hes⟩ := getAcc_ok (show getAcc s1 x = _ from hq)
  dsimp only at kh hes
  obtain ⟨⟨y, s2⟩, hy, kh⟩ := bd_ok kh
  dsimp only at kh
  obtain ⟨⟨i', l⟩, hq2, kh⟩ := bd_ok kh
  obtain ⟨e1, hl⟩ := getAcc_ok hq2
  cases e1
  dsimp only at kh hl
  obtain ⟨hlen, kh⟩ := if_ok kh
  cases kh
  exact e_append T.O T.kls T.app h2 h3 h6 hO (S.E m nm sc _ _ h5 A σ _ _ _ R' hy) ⟨es, hes⟩ hl hlen
theorem s_pop (T : TB c F g) (S : Snd c F g n) (R : Rm (3 * (n + 1)) A) {o} (hc : chkE g (m + 1) nm sc e (.accPop o) = true) (h : ev F (n + 1) σ st (.accPop o) = some (d, st')) : EvE c A (kdN nm) sc e σ st d st' := by
  obtain ⟨⟨x, X, xs⟩, h1, kc⟩ := gd_ok hc
  clear hc
  obtain ⟨ap, pos, rfl, h6⟩ := cM_ok h1
  obtain ⟨h1, h2, h3, h4, h5⟩ := an5 kc
  cases (show xs = _ from isN_ok h4)
  obtain ⟨fN, fO, P, hf⟩ := T.pop
  obtain ⟨⟨x, s1⟩, hx, h⟩ := bd_ok h
  have hO := S.E m nm sc _ _ h5 A σ st _ _ R.dn hx
  obtain ⟨⟨i, l⟩, hq, kh⟩ := bd_ok h
  clear h
  obtain ⟨rfl, hl⟩ := getAcc_ok (show getAcc s1 x = _ from hq)
  dsimp only at kh hl
  obtain ⟨hlen, kh⟩ := if_ok kh
  cases (show X = _ from (eq_of_beq h1).trans T.popN)
  refine e_meth (l := []) T.O T.kls P.find P.typ hf (ble_no h2) h3 rfl (by simp) h6 hO hl l_nil (pop_E (n := 3 * n + 1) T.O (R.le (by omega)) P hl hlen ?_)
  split at kh
  · rename_i e he; cases kh; first | (rw [he]; exact ⟨rfl, rfl⟩) | exact ⟨rfl, rfl⟩
  · rename_i he; cases kh; first | (rw [he]; exact ⟨rfl, rfl⟩) | exact ⟨rfl, rfl⟩
theorem s_len (T : TB c F g) (S : Snd c F g n) (R : Rm (3 * (n + 1)) A) {o} (hc : chkE g (m + 1) nm sc e (.accLen o) = true) (h : ev F (n + 1) σ st (.accLen o) = some (d, st')) : EvE c A (kdN nm) sc e σ st d st' := by
  obtain ⟨⟨x, X, xs⟩, h1, kc⟩ := gd_ok hc
  clear hc
  obtain ⟨ap, pos, rfl, h6⟩ := cM_ok h1
  obtain ⟨h1, h2, h3, h4, h5⟩ := an5 kc
  cases (show xs = _ from isN_ok h4)
  obtain ⟨fN, P, hf⟩ := T.cnt
  obtain ⟨⟨x, s1⟩, hx, h⟩ := bd_ok h
  have hO := S.E m nm sc _ _ h5 A σ st _ _ R.dn hx
  obtain ⟨⟨i, l⟩, hq, kh⟩ := bd_ok h
  clear h
  obtain ⟨rfl, hl⟩ := getAcc_ok (show getAcc s1 x = _ from hq)
  dsimp only at kh hl
  obtain ⟨hlen, kh⟩ := if_ok kh
  cases kh
  cases (show X = _ from (eq_of_beq h1).trans T.cntN)
  exact e_meth (l := []) T.O T.kls P.find P.typ hf (ble_no h2) h3 rfl (by simp) h6 hO hl l_nil (count_E (n := 3 * n + 1) T.O (R.le (by omega)) P hl)
theorem sndE (T : TB c F g) (S : Snd c F g n) (m nm sc e p) (hc : chkE g m nm sc e p = true) (A σ st d st') (R : Rm (3 * (n + 1)) A) (h : ev F (n + 1) σ st p = some (d, st')) : EvE c A (kdN nm) sc e σ st d st' := by
  cases m with
  | zero => exact Bool.noConfusion hc
  | succ m =>
    cases p with
    | lit d => exact s_lit T hc h
    | var i => exact s_var hc h
    | bin op a b => exact s_bin S R.dn hc h
    | neg a => exact s_neg S R.dn hc h
    | cmp1 op a b => exact s_cmp1 S R.dn hc h
    | ite c' a b => exact s_ite S R.dn hc h
    | idx a i => exact s_idx S R.dn hc h
    | slc a lo hi => exact s_slc S R.dn hc h
    | tup l => exact s_tup S R.dn hc h
    | lst l => exact s_lst S R.dn hc h
    | comp ep ix it cc => exact s_comp S R.dn hc h
    | fn f l => exact s_fn T S R.dn hc h
    | me k o l => exact s_me S R.dn hc h
    | sub k a b => exact s_sub T S R.dn hc h
    | call f l => exact s_call T S R.dn hc h
    | acc0 => exact s_acc0 T R hc h
    | meth f o l => exact s_meth T S R.dn hc h
    | accAppend o a => exact s_append T S R.dn hc h
    | accPop o => exact s_pop T S R hc h
    | accLen o => exact s_len T S R hc h
    | cmp2 _ _ _ _ _ => exact bad h
    | band _ => exact bad h
    | bor _ => exact bad h
    | bnot _ => exact bad h

/-- what the checker passes, the interpreter tells truly -/
theorem sound (T : TB c F g) (n : Nat) : Snd c F g n := by
  have : ∀ n k, k ≤ n → Snd c F g k := by
    intro n
    induction n with
    | zero => intro k hk; rw [Nat.le_zero.mp hk]; exact snd0
    | succ n ih =>
      intro k hk
      by_cases h : k ≤ n
      · exact ih k h
      · obtain rfl : k = n + 1 := by omega
        have S := ih n (Nat.le_refl n)
        exact ⟨sndE T S, fun m nm sc e p hc A σ st d st' R => sndO S m nm sc e p hc A σ st d st' R.dn, fun m nm sc e p hc A σ st d st' R => sndL S m nm sc e p hc A σ st d st' R.dn, fun m nm sc e p hc A σ st d st' R => sndT S m nm sc e p hc A σ st d st' R.dn,
          fun m nm sc e p hc A σ st d st' R => sndAnd S m nm sc e p hc A σ st d st' R.dn, fun m nm sc e p hc A σ st d st' R => sndOr S m nm sc e p hc A σ st d st' R.dn, sndC T S, fun m nm sc e p hc A σ st fl σ' st' R => sndX ih m nm sc e p hc A σ st fl σ' st' R.dn, fun m nm sc e p hc A σ st fl σ' st' R => sndB S m nm sc e p hc A σ st fl σ' st' R.dn⟩
  exact this n n (Nat.le_refl n)
end
end Mine
end
section
open PySem PySem.W PySem.Calls PyProof.Rows
set_option Elab.async false
namespace Mine
noncomputable def pf0 : PF := { params := [0, 1, 2], body := [
  (.asg 3 (.fn .max3 [(.var 0), (.var 1), (.var 2)])),
  (.asg 4 (.fn .min3 [(.var 0), (.var 1), (.var 2)])),
  (.asg 5 (.bin .Sub (.var 3) (.var 4))),
  (.asg 6 (.var 3)),
  (.ifs (.cmp1 .Eq (.var 4) (.var 3)) [(.ret (.tup [(.lit (.flt 0)), (.lit (.flt 0)), (.var 6)]))] []),
  (.asg 7 (.bin .Div (.var 5) (.var 3))),
  (.asg 8 (.bin .Div (.bin .Sub (.var 3) (.var 0)) (.var 5))),
  (.asg 9 (.bin .Div (.bin .Sub (.var 3) (.var 1)) (.var 5))),
  (.asg 10 (.bin .Div (.bin .Sub (.var 3) (.var 2)) (.var 5))),
  (.ifs (.cmp1 .Eq (.var 0) (.var 3)) [(.asg 11 (.bin .Sub (.var 10) (.var 9)))] [(.ifs (.cmp1 .Eq (.var 1) (.var 3)) [(.asg 11 (.bin .Sub (.bin .Add (.lit (.flt 4611686018427387904)) (.var 8)) (.var 10)))] [(.asg 11 (.bin .Sub (.bin .Add (.lit (.flt 4616189618054758400)) (.var 9)) (.var 8)))])]),
  (.asg 11 (.bin .Mod (.bin .Div (.var 11) (.lit (.flt 4618441417868443648))) (.lit (.flt 4607182418800017408)))),
  (.ret (.tup [(.var 11), (.var 7), (.var 6)]))] }
noncomputable def pf20 : PF := { params := [0, 1, 2], body := [
  (.ex (.accAppend (.var 0) (.tup [(.var 1), (.var 2)])))] }
noncomputable def pf1 : PF := { params := [0], body := [
  (.ret (.sub 1 (.lit (.str ⟨#[46, 46]⟩)) (.sub 2 (.lit (.str ⟨#[13, 10]⟩)) (.var 0))))] }
noncomputable def pf2 : PF := { params := [0, 1], body := [
  (.asg 2 (.lst [(.lit (.int 0)), (.lit (.int 1)), (.lit (.int 2)), (.lit (.int 0)), (.lit (.int 0)), (.lit (.int 1)), (.lit (.int 0)), (.lit (.int 0)), (.lit (.int 1)), (.lit (.int 2)), (.lit (.int 1))])),
  (.asg 3 (.lit (.str ⟨#[97]⟩))),
  (.for1 4 (.fn .range1 [(.bin .Sub (.bin .Mult (.lit (.int 3)) (.var 1)) (.lit (.int 1)))]) [(.asg 5 (.ite (.cmp1 .Lt (.var 4) (.fn .len [(.var 0)])) (.idx (.var 0) (.var 4)) (.idx (.var 2) (.var 4)))), (.asg 7 (.comp (.var 6) 6 (.lit (.str ⟨#[97, 98, 99]⟩)) (some (.cmp1 .Lt (.me .count (.var 3) [(.var 6)]) (.ite (.cmp1 .Eq (.var 6) (.lit (.str ⟨#[97]⟩))) (.var 1) (.me .count (.var 3) [(.lit (.str ⟨#[97]⟩))])))))), (.asg 3 (.bin .Add (.var 3) (.idx (.var 7) (.bin .Mod (.var 5) (.fn .len [(.var 7)])))))]),
  (.ret (.var 3))] }
noncomputable def pf3 : PF := { params := [0, 1, 2], body := [
  (.asgM 4 (.comp (.ite (.cmp1 .Eq (.var 3) (.var 1)) (.bin .Add (.bin .Mult (.lit (.str ⟨#[46]⟩)) (.idx (.var 0) (.var 3))) (.idx (.lit (.str ⟨#[97, 98, 99]⟩)) (.var 3))) (.bin .Add (.idx (.lit (.str ⟨#[97, 98, 99]⟩)) (.var 3)) (.bin .Mult (.lit (.str ⟨#[46]⟩)) (.idx (.var 0) (.var 3))))) 3 (.fn .range1 [(.lit (.int 3))]) .none)),
  (.asg 6 (.call 1 [(.me .join (.lit (.str ⟨#[]⟩)) [(.comp (.bin .Add (.idx (.var 4) (.var 5)) (.idx (.lst [(.lit (.str ⟨#[10]⟩)), (.lit (.str ⟨#[13]⟩)), (.lit (.str ⟨#[13, 10]⟩))]) (.bin .Mod (.bin .Add (.var 2) (.var 5)) (.lit (.int 3))))) 5 (.fn .range1 [(.lit (.int 3))]) .none)])])),
  (.seti 4 (.var 1) (.bin .Add (.lit (.str ⟨#[46]⟩)) (.idx (.var 4) (.var 1)))),
  (.ifs (.cmp1 .NotEq (.var 6) (.bin .Add (.me .join (.lit (.str ⟨#[13, 10]⟩)) [(.var 4)]) (.lit (.str ⟨#[13, 10]⟩)))) [(.ret (.lst []))] []),
  (.ret (.comp (.me .count (.var 7) [(.lit (.str ⟨#[46]⟩))]) 7 (.slc (.me .split (.var 6) [(.lit (.str ⟨#[13, 10]⟩))]) .none (some (.lit (.int 3)))) .none))] }
noncomputable def pf4 : PF := { params := [0, 1], body := [
  (.asg 2 (.bin .Add (.bin .FloorDiv (.var 1) (.lit (.int 2))) (.bin .Mult (.bin .Mod (.var 1) (.lit (.int 2))) (.lit (.int 2))))),
  (.asg 4 (.comp (.ite (.bin .Mod (.var 1) (.lit (.int 2))) (.bin .Sub (.lit (.int 16)) (.idx (.var 0) (.bin .Mod (.bin .Sub (.var 3) (.var 2)) (.lit (.int 3))))) (.idx (.var 0) (.bin .Mod (.bin .Sub (.var 3) (.var 2)) (.lit (.int 3))))) 3 (.fn .range1 [(.lit (.int 3))]) .none)),
  (.asgT [5, 6, 7] (.call 0 [(.bin .Div (.idx (.var 4) (.lit (.int 0))) (.lit (.flt 4625196817309499392))), (.bin .Div (.idx (.var 4) (.lit (.int 1))) (.lit (.flt 4625196817309499392))), (.bin .Div (.idx (.var 4) (.lit (.int 2))) (.lit (.flt 4625196817309499392)))])),
  (.asg 8 (.fn .minL [(.var 0)])),
  (.asg 9 (.bin .Sub (.fn .maxL [(.var 0)]) (.var 8))),
  (.asg 10 (.fn .intF [(.bin .Add (.bin .Mult (.bin .Mult (.bin .Mult (.var 5) (.lit (.int 6))) (.var 9)) (.bin .Pow (.lit (.int 2)) (.lit (.int 20)))) (.lit (.flt 4602678819172646912)))])),
  (.ifs (.bor [(.cmp1 .NotEq (.var 7) (.bin .Div (.fn .maxL [(.var 4)]) (.lit (.flt 4625196817309499392)))), (.cmp1 .NotEq (.fn .intF [(.bin .Add (.bin .Mult (.bin .Mult (.var 6) (.fn .maxL [(.var 4)])) (.bin .Pow (.lit (.int 2)) (.lit (.int 20)))) (.lit (.flt 4602678819172646912)))]) (.bin .Mult (.var 9) (.bin .Pow (.lit (.int 2)) (.lit (.int 20)))))]) [(.ret (.neg (.lit (.int 1))))] []),
  (.ifs (.bor [(.bnot (.cmp2 .LtE .Lt (.lit (.flt 0)) (.var 5) (.lit (.flt 4607182418800017408)))), (.cmp1 .NotEq (.bin .Mod (.var 10) (.bin .Pow (.lit (.int 2)) (.lit (.int 20)))) (.lit (.int 0))), (.band [(.cmp1 .Eq (.var 9) (.lit (.int 0))), (.cmp1 .NotEq (.var 5) (.lit (.flt 0)))])]) [(.ret (.neg (.lit (.int 1))))] []),
  (.asg 12 (.comp (.bin .Mod (.bin .Sub (.bin .FloorDiv (.var 10) (.bin .Pow (.lit (.int 2)) (.lit (.int 20)))) (.bin .Mult (.bin .Add (.var 1) (.bin .Mult (.lit (.int 2)) (.var 11))) (.var 9))) (.fn .max2 [(.lit (.int 1)), (.bin .Mult (.lit (.int 6)) (.var 9))])) 11 (.fn .range1 [(.lit (.int 3))]) .none)),
  (.asg 12 (.comp (.fn .min2 [(.var 13), (.bin .Sub (.bin .Mult (.lit (.int 6)) (.var 9)) (.var 13))]) 13 (.var 12) .none)),
  (.ifs (.cmp1 .NotEq (.comp (.fn .min2 [(.var 9), (.fn .max2 [(.lit (.int 0)), (.bin .Sub (.bin .Mult (.lit (.int 2)) (.var 9)) (.var 14))])]) 14 (.var 12) .none) (.comp (.bin .Sub (.var 15) (.var 8)) 15 (.var 0) .none)) [(.ret (.neg (.lit (.int 1))))] []),
  (.ret (.idx (.var 12) (.lit (.int 0))))] }
noncomputable def pf5 : PF := { params := [0], body := [
  (.asg 1 .acc0),
  (.asg 2 (.tup [(.lit (.str ⟨#[]⟩)), (.lit (.str ⟨#[]⟩))])),
  (.for1 3 (.fn .range1 [(.fn .len [(.var 0)])]) [(.ifs (.cmp1 .Eq (.idx (.var 0) (.var 3)) (.lit (.str ⟨#[97]⟩))) [(.ex (.meth 20 (.var 1) [(.bin .Mult (.lit (.str ⟨#[32]⟩)) (.var 3)), (.lit (.str ⟨#[97]⟩))]))] [(.ifs (.cmp1 .Eq (.idx (.var 0) (.var 3)) (.idx (.var 0) (.neg (.lit (.int 1))))) [(.asg 2 (.accPop (.var 1)))] [])])]),
  (.ret (.var 2))] }
noncomputable def pf6 : PF := { params := [0, 1, 2], body := [
  (.asg 3 (.lst [.acc0, .acc0])),
  (.asg 4 (.lst [(.lit (.int 1)), (.lit (.int 1)), (.lit (.int 1))])),
  (.for1 5 (.fn .range1 [(.fn .len [(.var 0)])]) [(.asg 6 (.me .index (.lit (.str ⟨#[97, 98, 99]⟩)) [(.idx (.var 0) (.var 5))])), (.ifs (.cmp1 .Eq (.var 6) (.lit (.int 0))) [(.ex (.meth 20 (.idx (.var 3) (.lit (.int 0))) [(.bin .Mult (.lit (.str ⟨#[32]⟩)) (.var 5)), (.lit (.str ⟨#[97]⟩))])), (.ex (.meth 20 (.idx (.var 3) (.lit (.int 1))) [(.bin .Mult (.lit (.str ⟨#[32]⟩)) (.var 5)), (.lit (.str ⟨#[97]⟩))])), (.asg 7 (.lit (.bool false)))] [(.asg 7 (.cmp1 .Eq (.accPop (.idx (.var 3) (.bin .Sub (.var 6) (.lit (.int 1))))) (.tup [(.lit (.str ⟨#[]⟩)), (.lit (.str ⟨#[97]⟩))])))]), (.asg 8 (.lit (.int 0))), (.ifs (.cmp1 .Gt (.var 5) (.lit (.int 0))) [(.asg 4 (.call 3 [(.var 4), (.var 6), (.bin .Add (.var 2) (.var 5))])), (.ifs (.cmp1 .Eq (.var 4) (.lst [])) [(.ret (.lit (.str ⟨#[]⟩)))] []), (.asg 8 (.call 4 [(.var 4), (.var 1)]))] []), (.ifs (.bor [(.cmp1 .Lt (.var 8) (.lit (.int 0))), (.cmp1 .NotEq (.cmp1 .Gt (.var 8) (.bin .Sub (.fn .maxL [(.var 4)]) (.fn .minL [(.var 4)]))) (.var 7))]) [(.ret (.lit (.str ⟨#[]⟩)))] []), (.ifs (.var 7) [(.asg 9 (.bin .Add (.bin .Add (.bin .Add (.slc (.var 0) (some (.lit (.int 1))) (some (.var 5))) (.lit (.str ⟨#[97]⟩))) (.slc (.var 0) (some (.bin .Add (.var 5) (.lit (.int 1)))) .none)) (.idx (.var 0) (.var 5)))), (.ifs (.bor [(.cmp1 .NotEq (.accLen (.idx (.var 3) (.bin .Sub (.var 6) (.lit (.int 1))))) (.lit (.int 0))), (.cmp1 .NotEq (.accPop (.idx (.var 3) (.bin .Sub (.var 6) (.lit (.int 1))))) (.tup [(.lit (.str ⟨#[]⟩)), (.lit (.str ⟨#[]⟩))]))]) [(.ret (.lit (.str ⟨#[]⟩)))] []), (.ret (.ite (.cmp1 .Eq (.call 5 [(.var 9)]) (.tup [(.bin .Mult (.lit (.str ⟨#[32]⟩)) (.bin .Sub (.var 5) (.lit (.int 1)))), (.lit (.str ⟨#[97]⟩))])) (.var 9) (.lit (.str ⟨#[]⟩))))] [])]),
  (.ret (.lit (.str ⟨#[]⟩)))] }
noncomputable def pf7 : PF := { params := [0], body := [
  (.asg 1 (.ite (.cmp1 .Lt (.fn .len [(.var 0)]) (.lit (.int 10))) (.lit (.int 3)) (.lit (.int 4)))),
  (.asg 2 (.call 2 [(.var 0), (.var 1)])),
  (.asg 3 (.var 2)),
  (.for1 4 (.fn .range1 [(.bin .Mult (.lit (.int 3)) (.var 1))]) [(.asg 3 (.call 6 [(.var 3), (.bin .Mod (.fn .sumL [(.var 0)]) (.lit (.int 6))), (.var 4)])), (.ifs (.cmp1 .Eq (.var 3) (.lit (.str ⟨#[]⟩))) [(.ret (.lit (.bool false)))] [])]),
  (.ret (.cmp1 .Eq (.var 3) (.me .join (.lit (.str ⟨#[]⟩)) [(.comp (.idx (.lit (.str ⟨#[97, 99, 98]⟩)) (.me .index (.lit (.str ⟨#[97, 98, 99]⟩)) [(.var 5)])) 5 (.var 2) .none)])))] }
noncomputable def F1 : Nat → Option PF
  | 0 => some pf0 | 1 => some pf1 | 2 => some pf2 | 3 => some pf3 | 4 => some pf4 | 5 => some pf5 | 6 => some pf6 | 7 => some pf7 | 20 => some pf20 | _ => none
end Mine
end
section
open PySem PySem.W PySem.Calls PyProof.Rows
set_option Elab.async false
namespace Mine
noncomputable def sc0 : Sc := [("r", 0), ("g", 1), ("b", 2), ("maxc", 3), ("minc", 4), ("rangec", 5), ("v", 6), ("s", 7), ("rc", 8), ("gc", 9), ("bc", 10), ("h", 11)]
noncomputable def sc20 : Sc := [("self", 0), ("fws", 1), ("string", 2)]
noncomputable def sc1 : Sc := [("data", 0)]
noncomputable def sc2 : Sc := [("script", 0), ("size", 1), ("spare", 2), ("word", 3), ("k", 4), ("x", 5), ("may", 7)]
noncomputable def sc3 : Sc := [("dots", 0), ("kind", 1), ("first", 2), ("rows", 4), ("sent", 6)]
noncomputable def sc4 : Sc := [("dots", 0), ("corner", 1), ("base", 2), ("parts", 4), ("hue", 5), ("share", 6), ("value", 7), ("least", 8), ("spread", 9), ("told", 10), ("ways", 12)]
noncomputable def sc5 : Sc := [("word", 0), ("pile", 1), ("piece", 2), ("k", 3)]
noncomputable def sc6 : Sc := [("word", 0), ("corner", 1), ("first", 2), ("piles", 3), ("dots", 4), ("k", 5), ("kind", 6), ("ended", 7), ("apart", 8), ("turned", 9)]
noncomputable def sc7 : Sc := [("script", 0), ("size", 1), ("start", 2), ("word", 3), ("first", 4)]
noncomputable def gn : Gn := {
  fn := fun X => ([("rgb_to_hsv", 0), ("quotedata", 1), ("_law_word", 2), ("_law_sent", 3), ("_law_apart", 4), ("_law_last", 5), ("_law_turned", 6)] : List (Str × Nat)).lookup X
  cst := fun X => ([("CRLF", .str ⟨#[13, 10]⟩)] : List (Str × D)).lookup X
  pat := fun X => ([("_twin_re_1", 1), ("_twin_re_2", 2)] : List (Str × Nat)).lookup X
  cls := "_Accumulator"
  meth := fun X => ([("push", 20)] : List (Str × Nat)).lookup X
  pop := "pop"
  cnt := "part_count" }
noncomputable def fdAt (K : Frag) (a : Addr) : FuncData := match K.lookup a with | some ⟨_, _, .func fd, _⟩ => fd | _ => default
noncomputable def bodyAt (fd : FuncData) : List Stmt := match fd.body with | .stmts b => b | _ => []
end Mine
end
section
set_option maxRecDepth 100000
set_option maxHeartbeats 8000000
namespace Mine
open PySem PySem.W PyProof.Rows
open_top hd for PySem.Challenge.rw_sn0007_01
end Mine
end
section
open PySem PySem.W PySem.Calls PyProof.Rows
set_option Elab.async false
set_option maxRecDepth 100000
namespace Mine
theorem ck0 (P : Params) : chkB gn 60 (fdAt (hd.heap_39 P) 45).scope.names sc0 (bodyAt (fdAt (hd.heap_39 P) 45)) pf0.body = true := by kernel_rfl
theorem ck1 (P : Params) : chkB gn 60 (fdAt (hd.heap_39 P) 146).scope.names sc1 (bodyAt (fdAt (hd.heap_39 P) 146)) pf1.body = true := by kernel_rfl
theorem ck2 (P : Params) : chkB gn 60 (fdAt (hd.heap_39 P) 151).scope.names sc2 (bodyAt (fdAt (hd.heap_39 P) 151)) pf2.body = true := by kernel_rfl
theorem ck3 (P : Params) : chkB gn 60 (fdAt (hd.heap_39 P) 156).scope.names sc3 (bodyAt (fdAt (hd.heap_39 P) 156)) pf3.body = true := by kernel_rfl
theorem ck4 (P : Params) : chkB gn 60 (fdAt (hd.heap_39 P) 161).scope.names sc4 (bodyAt (fdAt (hd.heap_39 P) 161)) pf4.body = true := by kernel_rfl
theorem ck5 (P : Params) : chkB gn 60 (fdAt (hd.heap_39 P) 168).scope.names sc5 (bodyAt (fdAt (hd.heap_39 P) 168)) pf5.body = true := by kernel_rfl
theorem ck6 (P : Params) : chkB gn 60 (fdAt (hd.heap_39 P) 175).scope.names sc6 (bodyAt (fdAt (hd.heap_39 P) 175)) pf6.body = true := by kernel_rfl
theorem ck7 (P : Params) : chkB gn 60 (fdAt (hd.heap_39 P) 180).scope.names sc7 (bodyAt (fdAt (hd.heap_39 P) 180)) pf7.body = true := by kernel_rfl
theorem ck20 (P : Params) : chkB gn 60 (fdAt (hd.heap_39 P) 69).scope.names sc20 (bodyAt (fdAt (hd.heap_39 P) 69)) pf20.body = true := by kernel_rfl
end Mine
end
section
open PySem PySem.W PySem.Calls PyProof.Rows
set_option Elab.async false
set_option maxRecDepth 100000
namespace Mine
noncomputable abbrev KK (P : Params) : Frag := hd.heap_39 P
noncomputable def obAt (K : Frag) (a : Addr) : Obj := match K.lookup a with | some o => o | _ => default
noncomputable abbrev nmAt (P : Params) (a : Addr) : List (Str × NameKind) := (fdAt (KK P) a).scope.names

noncomputable def statOk (nm : List (Str × NameKind)) (names : List Str) (is : List Nat) (sc : Sc) : Bool :=
  decide names.Nodup && decide is.Nodup && decide (is.length = names.length) && (names.zip is).all (fun p => decide (p ∈ sc)) && names.all (fun x => lc nm x) && sc.all (fun p => lc nm p.1) &&
  sc.all (fun p => sc.all fun q => (!(p.2 == q.2) || p.1 == q.1) && (!(p.1 == q.1) || p.2 == q.2))
theorem fnIs_of {c : Cx} {a : Addr} {fd : FuncData} {body : List Stmt} {names : List Str} {is : List Nat} {sc : Sc} (get : ∃ o, c.K.lookup a = some o ∧ o.data = .func fd) (code : codeIn c.K fd.code fd.qualname = true) (hb : fd.body = .stmts body)
    (bind : ∀ vals : List Value, vals.length = names.length → bindArgs fd ⟨vals, []⟩ = pure (names.zip vals)) (clo : fd.closure = []) (glob : fd.globals = mainGlobals) (blt : fd.builtins = builtinsNs) (co : fd.scope.isCoroutine = false) (gen : fd.scope.isGenerator = false) (kind : fd.scope.kind = .function)
    (h : statOk fd.scope.names names is sc = true) : FnIs c a fd body names is sc := by
  unfold statOk at h
  simp only [Bool.and_eq_true, decide_eq_true_eq, List.all_eq_true, Bool.or_eq_true, Bool.not_eq_true', beq_eq_false_iff_ne, ne_eq, beq_iff_eq] at h
  obtain ⟨⟨⟨⟨⟨⟨h1, h2⟩, h3⟩, h4⟩, h5⟩, h6⟩, h7⟩ := h
  refine ⟨get, code, hb, bind, clo, glob, blt, co, gen, kind, h1, h2, h3, fun p hp => h4 p hp, fun x hx => lc_ok (h5 x hx), fun p hp => lc_ok (h6 p hp), fun p hp q hq e => ?_, fun p hp q hq e => ?_⟩
  · rcases (h7 p hp q hq).1 with z | z
    · exact absurd e z
    · exact z
  · rcases (h7 p hp q hq).2 with z | z
    · exact absurd e z
    · exact z
theorem fget_of {K : Frag} {a : Addr} {o : Obj} {fd : FuncData} (h1 : K.lookup a = some o) (h2 : o.data = .func fd) : ∃ o, K.lookup a = some o ∧ o.data = .func fd := ⟨o, h1, h2⟩

theorem fi0 {c : Cx} (P : Params) (hK : c.K = KK P) : FnIs c 45 (fdAt (KK P) 45) (bodyAt (fdAt (KK P) 45)) ["r", "g", "b"] pf0.params sc0 := by
  refine fnIs_of (by rw [hK]; exact fget_of (o := obAt (KK P) 45) (by kernel_rfl) (by kernel_rfl)) (by rw [hK]; kernel_rfl) (by kernel_rfl) (fun vals h => ?_) (by kernel_rfl) (by kernel_rfl) (by kernel_rfl) (by kernel_rfl) (by kernel_rfl) (by kernel_rfl) (by kernel_rfl)
  match vals, h with
  | [a', b', c'], _ => kernel_rfl
theorem fi1 {c : Cx} (P : Params) (hK : c.K = KK P) : FnIs c 146 (fdAt (KK P) 146) (bodyAt (fdAt (KK P) 146)) ["data"] pf1.params sc1 := by
  refine fnIs_of (by rw [hK]; exact fget_of (o := obAt (KK P) 146) (by kernel_rfl) (by kernel_rfl)) (by rw [hK]; kernel_rfl) (by kernel_rfl) (fun vals h => ?_) (by kernel_rfl) (by kernel_rfl) (by kernel_rfl) (by kernel_rfl) (by kernel_rfl) (by kernel_rfl) (by kernel_rfl)
  match vals, h with
  | [a'], _ => kernel_rfl
theorem fi2 {c : Cx} (P : Params) (hK : c.K = KK P) : FnIs c 151 (fdAt (KK P) 151) (bodyAt (fdAt (KK P) 151)) ["script", "size"] pf2.params sc2 := by
  refine fnIs_of (by rw [hK]; exact fget_of (o := obAt (KK P) 151) (by kernel_rfl) (by kernel_rfl)) (by rw [hK]; kernel_rfl) (by kernel_rfl) (fun vals h => ?_) (by kernel_rfl) (by kernel_rfl) (by kernel_rfl) (by kernel_rfl) (by kernel_rfl) (by kernel_rfl) (by kernel_rfl)
  match vals, h with
  | [a', b'], _ => kernel_rfl
theorem fi3 {c : Cx} (P : Params) (hK : c.K = KK P) : FnIs c 156 (fdAt (KK P) 156) (bodyAt (fdAt (KK P) 156)) ["dots", "kind", "first"] pf3.params sc3 := by
  refine fnIs_of (by rw [hK]; exact fget_of (o := obAt (KK P) 156) (by kernel_rfl) (by kernel_rfl)) (by rw [hK]; kernel_rfl) (by kernel_rfl) (fun vals h => ?_) (by kernel_rfl) (by kernel_rfl) (by kernel_rfl) (by kernel_rfl) (by kernel_rfl) (by kernel_rfl) (by kernel_rfl)
  match vals, h with
  | [a', b', c'], _ => kernel_rfl
theorem fi4 {c : Cx} (P : Params) (hK : c.K = KK P) : FnIs c 161 (fdAt (KK P) 161) (bodyAt (fdAt (KK P) 161)) ["dots", "corner"] pf4.params sc4 := by
  refine fnIs_of (by rw [hK]; exact fget_of (o := obAt (KK P) 161) (by kernel_rfl) (by kernel_rfl)) (by rw [hK]; kernel_rfl) (by kernel_rfl) (fun vals h => ?_) (by kernel_rfl) (by kernel_rfl) (by kernel_rfl) (by kernel_rfl) (by kernel_rfl) (by kernel_rfl) (by kernel_rfl)
  match vals, h with
  | [a', b'], _ => kernel_rfl
theorem fi5 {c : Cx} (P : Params) (hK : c.K = KK P) : FnIs c 168 (fdAt (KK P) 168) (bodyAt (fdAt (KK P) 168)) ["word"] pf5.params sc5 := by
  refine fnIs_of (by rw [hK]; exact fget_of (o := obAt (KK P) 168) (by kernel_rfl) (by kernel_rfl)) (by rw [hK]; kernel_rfl) (by kernel_rfl) (fun vals h => ?_) (by kernel_rfl) (by kernel_rfl) (by kernel_rfl) (by kernel_rfl) (by kernel_rfl) (by kernel_rfl) (by kernel_rfl)
  match vals, h with
  | [a'], _ => kernel_rfl
theorem fi6 {c : Cx} (P : Params) (hK : c.K = KK P) : FnIs c 175 (fdAt (KK P) 175) (bodyAt (fdAt (KK P) 175)) ["word", "corner", "first"] pf6.params sc6 := by
  refine fnIs_of (by rw [hK]; exact fget_of (o := obAt (KK P) 175) (by kernel_rfl) (by kernel_rfl)) (by rw [hK]; kernel_rfl) (by kernel_rfl) (fun vals h => ?_) (by kernel_rfl) (by kernel_rfl) (by kernel_rfl) (by kernel_rfl) (by kernel_rfl) (by kernel_rfl) (by kernel_rfl)
  match vals, h with
  | [a', b', c'], _ => kernel_rfl
theorem fi20 {c : Cx} (P : Params) (hK : c.K = KK P) : FnIs c 69 (fdAt (KK P) 69) (bodyAt (fdAt (KK P) 69)) ["self", "fws", "string"] pf20.params sc20 := by
  refine fnIs_of (by rw [hK]; exact fget_of (o := obAt (KK P) 69) (by kernel_rfl) (by kernel_rfl)) (by rw [hK]; kernel_rfl) (by kernel_rfl) (fun vals h => ?_) (by kernel_rfl) (by kernel_rfl) (by kernel_rfl) (by kernel_rfl) (by kernel_rfl) (by kernel_rfl) (by kernel_rfl)
  match vals, h with
  | [a', b', c'], _ => kernel_rfl
end Mine
end
section
open PySem PySem.W PySem.Calls PyProof.Rows
set_option Elab.async false
set_option maxRecDepth 100000
namespace Mine
theorem cls_k (P : Params) : ClsK (KK P) 125 := by
  refine ⟨⟨(obAt (KK P) 125).cls, (obAt (KK P) 125).dict, (match (obAt (KK P) 125).data with | .cls cd => cd | _ => default), (obAt (KK P) 125).slots, by kernel_rfl, by kernel_rfl, by kernel_rfl, by kernel_rfl, by kernel_rfl, by kernel_rfl⟩, by kernel_rfl, by kernel_rfl, by kernel_rfl, by kernel_rfl, by kernel_rfl⟩
theorem fnv_k (P : Params) (f : Fn) : globIn (KK P) f.name = some f.val := by
  cases f <;> kernel_rfl
theorem in_get {K : Frag} {h : Heap} (X : K.In h) {a : Addr} {o : Obj} (e : K.lookup a = some o) : h.get? a = some o := X a o e
noncomputable abbrev flds (P : Params) (a : Addr) : Array Value := match (obAt (KK P) a).data with | .fields fs => fs | _ => #[]
noncomputable abbrev seqOf (P : Params) (a : Addr) : Array Value := match (obAt (KK P) a).data with | .seq fs _ => fs | _ => #[]
noncomputable abbrev seqN (P : Params) (a : Addr) : Nat := match (obAt (KK P) a).data with | .seq _ n => n | _ => 0
theorem pat_1 (P : Params) {h : Heap} (X : (KK P).In h) : Pat h 134 code1 :=
  ⟨⟨obAt (KK P) 134, flds P 134, 133, obAt (KK P) 133, seqOf P 133, seqN P 133, X _ _ (by kernel_rfl), by kernel_rfl, by kernel_rfl, by kernel_rfl, by kernel_rfl, by kernel_rfl, by kernel_rfl, X _ _ (by kernel_rfl), by kernel_rfl, by kernel_rfl, by kernel_rfl⟩⟩
theorem pat_2 (P : Params) {h : Heap} (X : (KK P).In h) : Pat h 139 code2 :=
  ⟨⟨obAt (KK P) 139, flds P 139, 138, obAt (KK P) 138, seqOf P 138, seqN P 138, X _ _ (by kernel_rfl), by kernel_rfl, by kernel_rfl, by kernel_rfl, by kernel_rfl, by kernel_rfl, by kernel_rfl, X _ _ (by kernel_rfl), by kernel_rfl, by kernel_rfl, by kernel_rfl⟩⟩
end Mine
end
section
open PySem PySem.W PySem.Calls PyProof.Rows
set_option Elab.async false
set_option maxRecDepth 100000
namespace Mine
noncomputable def hdArg (fd : FuncData) : Arg := match (fd.params.posonlyargs ++ fd.params.args).head? with | some a => a | _ => default
noncomputable def refOf (v : Value) : Addr := match v with | .ref a => a | _ => 0
noncomputable def strOf (v : Option Value) : Str := match v with | some (.str x _) => x | _ => default
noncomputable def tokOf (v : Option Value) : Tok := match v with | some (.str _ t) => t | _ => default
theorem noCell_of {nm : List (Str × NameKind)} (h : nm.all (fun x => !(x.2 == .cell)) = true) : ∀ x ∈ nm, x.2 ≠ .cell := fun x hx e => by
  have := List.all_eq_true.mp h x hx
  rw [e] at this; cases this
theorem sup_init (P : Params) : SupFn PySem.Challenge.pw_sn0007_01 (KK P) 125 62 (fdAt (KK P) 62) [.Assign [.Attribute (.Name "self" ⟨30, 8, 30, 12⟩) "_initial_size" ⟨30, 8, 30, 26⟩] (.Name "initial_size" ⟨30, 29, 30, 41⟩) ⟨30, 8, 30, 41⟩, .Expr (superE ⟨31, 8, 31, 13⟩ ⟨31, 8, 31, 15⟩ ⟨31, 8, 31, 24⟩ ⟨31, 8, 31, 26⟩ "__init__") ⟨31, 8, 31, 26⟩] := by
  refine ⟨⟨obAt (KK P) 62, by kernel_rfl, by kernel_rfl⟩, by kernel_rfl, by kernel_rfl, by kernel_rfl, by kernel_rfl, by kernel_rfl, ?_, by kernel_rfl, by kernel_rfl, by kernel_rfl, ⟨(hdArg (fdAt (KK P) 62)), by kernel_rfl, by kernel_rfl⟩,
    ⟨49, obAt (KK P) 49, by kernel_rfl, by kernel_rfl, by kernel_rfl⟩, by kernel_rfl, by kernel_rfl, ⟨refOf (fdAt (KK P) 62).code, obAt (KK P) (refOf (fdAt (KK P) 62).code), flds P (refOf (fdAt (KK P) 62).code), strOf ((flds P (refOf (fdAt (KK P) 62).code))[2]?), tokOf ((flds P (refOf (fdAt (KK P) 62).code))[2]?), by kernel_rfl, by kernel_rfl, by kernel_rfl, by kernel_rfl, by kernel_rfl⟩, by kernel_rfl⟩
  exact noCell_of (by kernel_rfl)
theorem sup_cnt (P : Params) : SupFn PySem.Challenge.pw_sn0007_01 (KK P) 125 122 (fdAt (KK P) 122) [.Return (some (superE ⟨57, 15, 57, 20⟩ ⟨57, 15, 57, 22⟩ ⟨57, 15, 57, 30⟩ ⟨57, 15, 57, 32⟩ "__len__")) ⟨57, 8, 57, 32⟩] := by
  refine ⟨⟨obAt (KK P) 122, by kernel_rfl, by kernel_rfl⟩, by kernel_rfl, by kernel_rfl, by kernel_rfl, by kernel_rfl, by kernel_rfl, ?_, by kernel_rfl, by kernel_rfl, by kernel_rfl, ⟨(hdArg (fdAt (KK P) 122)), by kernel_rfl, by kernel_rfl⟩,
    ⟨49, obAt (KK P) 49, by kernel_rfl, by kernel_rfl, by kernel_rfl⟩, by kernel_rfl, by kernel_rfl, ⟨refOf (fdAt (KK P) 122).code, obAt (KK P) (refOf (fdAt (KK P) 122).code), flds P (refOf (fdAt (KK P) 122).code), strOf ((flds P (refOf (fdAt (KK P) 122).code))[2]?), tokOf ((flds P (refOf (fdAt (KK P) 122).code))[2]?), by kernel_rfl, by kernel_rfl, by kernel_rfl, by kernel_rfl, by kernel_rfl⟩, by kernel_rfl⟩
  exact noCell_of (by kernel_rfl)
theorem sup_pop (P : Params) : SupFn PySem.Challenge.pw_sn0007_01 (KK P) 125 85 (fdAt (KK P) 85) [.If (.Compare (.Call (.Attribute (.Name "self" ⟨40, 11, 40, 15⟩) "part_count" ⟨40, 11, 40, 26⟩) [] [] ⟨40, 11, 40, 28⟩) [.Eq] [.Constant (.int 0) 0 ⟨40, 32, 40, 33⟩] ⟨40, 11, 40, 33⟩) [.Return (some (.Tuple [.Constant (.str "") 0 ⟨41, 20, 41, 22⟩, .Constant (.str "") 0 ⟨41, 24, 41, 26⟩] 0 ⟨41, 19, 41, 27⟩)) ⟨41, 12, 41, 27⟩] [] ⟨40, 8, 41, 27⟩,
        .Return (some (superE ⟨42, 15, 42, 20⟩ ⟨42, 15, 42, 22⟩ ⟨42, 15, 42, 26⟩ ⟨42, 15, 42, 28⟩ "pop")) ⟨42, 8, 42, 28⟩] := by
  refine ⟨⟨obAt (KK P) 85, by kernel_rfl, by kernel_rfl⟩, by kernel_rfl, by kernel_rfl, by kernel_rfl, by kernel_rfl, by kernel_rfl, ?_, by kernel_rfl, by kernel_rfl, by kernel_rfl, ⟨(hdArg (fdAt (KK P) 85)), by kernel_rfl, by kernel_rfl⟩,
    ⟨49, obAt (KK P) 49, by kernel_rfl, by kernel_rfl, by kernel_rfl⟩, by kernel_rfl, by kernel_rfl, ⟨refOf (fdAt (KK P) 85).code, obAt (KK P) (refOf (fdAt (KK P) 85).code), flds P (refOf (fdAt (KK P) 85).code), strOf ((flds P (refOf (fdAt (KK P) 85).code))[2]?), tokOf ((flds P (refOf (fdAt (KK P) 85).code))[2]?), by kernel_rfl, by kernel_rfl, by kernel_rfl, by kernel_rfl, by kernel_rfl⟩, by kernel_rfl⟩
  exact noCell_of (by kernel_rfl)
end Mine
end
section
open PySem PySem.W PySem.Calls PyProof.Rows
set_option Elab.async false
set_option maxRecDepth 100000
namespace Mine
theorem binds_init {s : Shared} {fd : FuncData} {a v0 : Value} {o : Obj} {n : Nat} {q1 q2 q3 : Pos} (hp : fd.params = { posonlyargs := [], args := [⟨"self", none, q1⟩, ⟨"initial_size", none, q2⟩], vararg := none, kwonlyargs := [], kw_defaults := [], kwarg := none, defaults := [.Constant (.int 0) 0 q3] })
    (hd : fd.defaults = .ref 54) (ho : s.heap.get? 54 = some o) (hs : o.data = .seq #[v0] n) : BindsTo s fd ⟨[a], []⟩ [("self", a), ("initial_size", v0)] := by
  cases fd
  dsimp only at hp hd
  subst hp; subst hd
  exact BindsTo.of_defaults rfl ho hs rfl rfl
noncomputable def sigPop : Manifest.Signature := match Manifest.signature? "list.pop" with | some s => s | none => ⟨.hand, "", "", .none, []⟩
noncomputable abbrev cdAt (P : Params) : ClassData := match (obAt (KK P) 125).data with | .cls cd => cd | _ => default
noncomputable abbrev dflt0 (P : Params) : Value := match (seqOf P 54)[0]? with | some v => v | none => .none
section
variable {c : Cx} (P : Params)
theorem init_k (hK : c.K = KK P) (hC : c.C = 125) (hp : c.prog = PySem.Challenge.pw_sn0007_01) : InitK c 62 := by
  refine ⟨?_, ?_, ?_, ?_, ?_, ?_, ?_, ?_⟩ <;> rw [hK] <;> (try rw [hC])
  · exact cls_k P
  · kernel_rfl
  · kernel_rfl
  · kernel_rfl
  · kernel_rfl
  · kernel_rfl
  · rw [hp]
    exact ⟨_, _, _, _, _, _, _, _, _, _, dflt0 P, sup_init P, rfl, fun s a X => binds_init (q1 := ⟨29, 17, 29, 21⟩) (q2 := ⟨29, 23, 29, 35⟩) (q3 := ⟨29, 36, 29, 37⟩) (by kernel_rfl) (by kernel_rfl) (X 54 (obAt (KK P) 54) (by kernel_rfl)) (n := seqN P 54) (by kernel_rfl), by kernel_rfl⟩
  · kernel_rfl
theorem cnt_k (hK : c.K = KK P) (hC : c.C = 125) (hp : c.prog = PySem.Challenge.pw_sn0007_01) : CountK c 122 := by
  refine ⟨?_, ?_, ?_, ?_, ?_, ?_⟩ <;> rw [hK] <;> (try rw [hC])
  · exact cls_k P
  · kernel_rfl
  · kernel_rfl
  · kernel_rfl
  · rw [hp]
    exact ⟨_, _, _, _, _, _, sup_cnt P, rfl, fun a => by kernel_rfl⟩
  · kernel_rfl
theorem pop_k (hK : c.K = KK P) (hC : c.C = 125) (hp : c.prog = PySem.Challenge.pw_sn0007_01) : PopK c 122 85 := by
  refine ⟨cnt_k P hK hC hp, ?_, ?_, ?_, ?_, ?_⟩ <;> rw [hK] <;> (try rw [hC])
  · kernel_rfl
  · kernel_rfl
  · rw [hp]
    exact ⟨_, _, _, _, _, _, _, _, _, _, _, _, _, _, _, _, _, _, _, _, sup_pop P, rfl, rfl, fun a => by kernel_rfl⟩
  · kernel_rfl
  · exact ⟨cdAt P, sigPop, by kernel_rfl, by kernel_rfl, fun a => by kernel_rfl⟩
theorem tb (hK : c.K = KK P) (hC : c.C = 125) (hp : c.prog = PySem.Challenge.pw_sn0007_01) (O : Ok c) : TB c F1 gn := by
  refine ⟨O, fun f => ?_, fun X d h => ?_, fun X k h => ?_, fun X f h => ?_, ?_, ⟨62, init_k P hK hC hp⟩, ?_, ?_, fun X f h => ?_, ⟨122, cnt_k P hK hC hp, ?_⟩, rfl, ⟨122, 85, pop_k P hK hC hp, ?_⟩, rfl⟩
  · rw [hK]; exact fnv_k P f
  · have h := mem_of_lookup h
    simp only [List.mem_cons, List.not_mem_nil, or_false, Prod.mk.injEq] at h
    obtain ⟨rfl, rfl⟩ := h
    exact ⟨.str ⟨#[13, 10]⟩ 468, by rw [hK]; kernel_rfl, fun _ _ => .str _ _⟩
  · have h := mem_of_lookup h
    simp only [List.mem_cons, List.not_mem_nil, or_false, Prod.mk.injEq] at h
    rcases h with ⟨rfl, rfl⟩ | ⟨rfl, rfl⟩
    · exact ⟨134, by rw [hK]; kernel_rfl, fun h X => pat_1 P (by rw [← hK]; exact X)⟩
    · exact ⟨139, by rw [hK]; kernel_rfl, fun h X => pat_2 P (by rw [← hK]; exact X)⟩
  · have h := mem_of_lookup h
    simp only [List.mem_cons, List.not_mem_nil, or_false, Prod.mk.injEq] at h
    rcases h with ⟨rfl, rfl⟩ | ⟨rfl, rfl⟩ | ⟨rfl, rfl⟩ | ⟨rfl, rfl⟩ | ⟨rfl, rfl⟩ | ⟨rfl, rfl⟩ | ⟨rfl, rfl⟩
    · exact ⟨45, by rw [hK]; kernel_rfl, by rw [hK]; kernel_rfl, ⟨_, _, _, sc0, pf0, 60, rfl, fi0 P hK, ck0 P⟩⟩
    · exact ⟨146, by rw [hK]; kernel_rfl, by rw [hK]; kernel_rfl, ⟨_, _, _, sc1, pf1, 60, rfl, fi1 P hK, ck1 P⟩⟩
    · exact ⟨151, by rw [hK]; kernel_rfl, by rw [hK]; kernel_rfl, ⟨_, _, _, sc2, pf2, 60, rfl, fi2 P hK, ck2 P⟩⟩
    · exact ⟨156, by rw [hK]; kernel_rfl, by rw [hK]; kernel_rfl, ⟨_, _, _, sc3, pf3, 60, rfl, fi3 P hK, ck3 P⟩⟩
    · exact ⟨161, by rw [hK]; kernel_rfl, by rw [hK]; kernel_rfl, ⟨_, _, _, sc4, pf4, 60, rfl, fi4 P hK, ck4 P⟩⟩
    · exact ⟨168, by rw [hK]; kernel_rfl, by rw [hK]; kernel_rfl, ⟨_, _, _, sc5, pf5, 60, rfl, fi5 P hK, ck5 P⟩⟩
    · exact ⟨175, by rw [hK]; kernel_rfl, by rw [hK]; kernel_rfl, ⟨_, _, _, sc6, pf6, 60, rfl, fi6 P hK, ck6 P⟩⟩
  · rw [hK, hC]; kernel_rfl
  · rw [hK, hC]; exact cls_k P
  · rw [hK, hC]; kernel_rfl
  · have h := mem_of_lookup h
    simp only [List.mem_cons, List.not_mem_nil, or_false, Prod.mk.injEq] at h
    obtain ⟨rfl, rfl⟩ := h
    exact ⟨69, by rw [hK, hC]; kernel_rfl, by rw [hK]; kernel_rfl, by rw [hK]; kernel_rfl, ⟨_, _, _, sc20, pf20, 60, rfl, fi20 P hK, ck20 P⟩⟩
  · rw [hK]; kernel_rfl
  · rw [hK]; kernel_rfl
end
end Mine
end
section
open PySem PySem.W PySem.Calls PyProof.Rows
set_option Elab.async false
set_option maxRecDepth 100000
set_option maxHeartbeats 4000000
namespace Mine
noncomputable abbrev dD (a b c : Nat) : D := .lst [.int a, .int b, .int c]
noncomputable abbrev S (w : List Nat) : Str := ⟨w.toArray⟩
noncomputable abbrev dt (n : Nat) : Str := Txt.mul ⟨#[46]⟩ (n : Int)
noncomputable def rows0 (a b c : Nat) : List Str := [dt a ++ ⟨#[97]⟩, ⟨#[98]⟩ ++ dt b, ⟨#[99]⟩ ++ dt c]
noncomputable def rows1 (a b c : Nat) : List Str := [⟨#[97]⟩ ++ dt a, dt b ++ ⟨#[98]⟩, ⟨#[99]⟩ ++ dt c]
noncomputable def rows2 (a b c : Nat) : List Str := [⟨#[97]⟩ ++ dt a, ⟨#[98]⟩ ++ dt b, dt c ++ ⟨#[99]⟩]
noncomputable abbrev s31 : PS := (.asgM 4 (.comp (.ite (.cmp1 .Eq (.var 3) (.var 1)) (.bin .Add (.bin .Mult (.lit (.str ⟨#[46]⟩)) (.idx (.var 0) (.var 3))) (.idx (.lit (.str ⟨#[97, 98, 99]⟩)) (.var 3))) (.bin .Add (.idx (.lit (.str ⟨#[97, 98, 99]⟩)) (.var 3)) (.bin .Mult (.lit (.str ⟨#[46]⟩)) (.idx (.var 0) (.var 3))))) 3 (.fn .range1 [(.lit (.int 3))]) .none))
@[simp] theorem dI_int (a : Int) : dI (.int a) = some a := rfl
@[simp] theorem dB_bool (a : Bool) : dB (.bool a) = some a := rfl
@[simp] theorem dF_flt (a : UInt64) : dF (.flt a) = some a := rfl
@[simp] theorem dS_str (a : Str) : dS (.str a) = some a := rfl
@[simp] theorem dT_tup (a : List D) : dT (.tup a) = some a := rfl
@[simp] theorem dL_lst (a : List D) : dL (.lst a) = some a := rfl
@[simp] theorem dR_ref (a : Nat) : dR (.ref a) = some a := rfl
@[simp] theorem dMl_ml (a : List D) : dMl (.ml a) = some a := rfl
@[simp] theorem dAcc_acc (a : List D) : dAcc (.acc a) = some a := rfl
@[simp] theorem getMl_ref (st : Store) (i : Nat) : getMl st (.ref i) = (st[i]?).bind fun m => (dMl m).map fun l => (i, l) := rfl
@[simp] theorem getAcc_ref (st : Store) (i : Nat) : getAcc st (.ref i) = (st[i]?).bind fun m => (dAcc m).map fun l => (i, l) := rfl
theorem mul_dt (n : Nat) (h : n ≤ 8) : binP .Mult (.str ⟨#[46]⟩) (.int n) = some (.str (dt n)) := by
  have : ∀ n : Nat, n ≤ 8 → (Nat.ble (Str.length ⟨#[46]⟩) 16 && decide ((n:Int).natAbs ≤ lid)) = true := by decide
  have := this n h
  simp only [Bool.and_eq_true, Nat.ble_eq, decide_eq_true_eq] at this
  simp only [binP]
  exact if_pos this
theorem add_dt1 (x : Nat) (n : Nat) (h : n ≤ 8) : binP .Add (.str (dt n)) (.str ⟨#[x]⟩) = some (.str (dt n ++ ⟨#[x]⟩)) := by
  have : ∀ n : Nat, n ≤ 8 → (dt n).length + 1 ≤ lid := by decide
  simp only [binP]
  exact if_pos (this n h)
theorem add_dt2 (x : Nat) (n : Nat) (h : n ≤ 8) : binP .Add (.str ⟨#[x]⟩) (.str (dt n)) = some (.str (⟨#[x]⟩ ++ dt n)) := by
  have : ∀ n : Nat, n ≤ 8 → 1 + (dt n).length ≤ lid := by decide
  simp only [binP]
  exact if_pos (this n h)
theorem rng3 (st : Store) : fnP st .range1 [.int 3] = some (.rng 0 3 1) := by rfl
theorem its3 : items (.rng 0 3 1) = some [.int 0, .int 1, .int 2] := by rfl
theorem ixa (st : Store) : idxP st (.str ⟨#[97, 98, 99]⟩) (.int 0) = some (.str ⟨#[97]⟩) := by rfl
theorem ixb (st : Store) : idxP st (.str ⟨#[97, 98, 99]⟩) (.int 1) = some (.str ⟨#[98]⟩) := by rfl
theorem ixc (st : Store) : idxP st (.str ⟨#[97, 98, 99]⟩) (.int 2) = some (.str ⟨#[99]⟩) := by rfl
theorem ix0 (st : Store) (a b c : D) : idxP st (.lst [a, b, c]) (.int 0) = some a := by rfl
theorem ix1 (st : Store) (a b c : D) : idxP st (.lst [a, b, c]) (.int 1) = some b := by rfl
theorem ix2 (st : Store) (a b c : D) : idxP st (.lst [a, b, c]) (.int 2) = some c := by rfl
theorem cEq (st : Store) (a b : Int) : cmpP st .Eq (.int a) (.int b) = some (a == b) := by rfl
theorem v1 (i : Nat) (d : D) (r : Vars) : Vars.get ((i, d) :: r) i = some d := by simp [Vars.get]
theorem v2 (i j : Nat) (d : D) (r : Vars) (h : Nat.beq i j = false) : Vars.get ((i, d) :: r) j = r.get j := by rw [Vars.get, h]

noncomputable def nlS : Nat → Str
  | 0 => ⟨#[10]⟩
  | 1 => ⟨#[13]⟩
  | _ => ⟨#[13, 10]⟩
noncomputable abbrev crS : Str := ⟨#[13, 10]⟩
noncomputable def sJ (r0 r1 r2 : Str) (r : Nat) : Str := Txt.join ⟨#[]⟩ [r0 ++ nlS r, r1 ++ nlS ((r + 1) % 3), r2 ++ nlS ((r + 2) % 3)]
noncomputable def sU (j : Str) : Str := ⟨(crlf [13, 10] j.cps.toList).toArray⟩
noncomputable def sV (u : Str) : Str := ⟨(dotq [46, 46] true u.cps.toList).toArray⟩
noncomputable def sM (r0 r1 r2 : Str) : Str := Txt.join crS [r0, r1, r2]
/-- the checks of a mail: r's the rows, p's the rows sent -/
noncomputable def sChk (r0 r1 r2 p0 p1 p2 q : Str) (r : Nat) (a b c : Nat) : Bool :=
  Nat.ble (r0.length + 2) 4096 && Nat.ble (r1.length + 2) 4096 && Nat.ble (r2.length + 2) 4096 && Nat.ble (q.length + 1) 4096 &&
  decide (JoinOk ⟨#[]⟩ [r0 ++ nlS r, r1 ++ nlS ((r + 1) % 3), r2 ++ nlS ((r + 2) % 3)] = true) &&
  Nat.ble (sJ r0 r1 r2 r).length 4096 && Nat.ble (sU (sJ r0 r1 r2 r)).length 4096 && decide (JoinOk crS [p0, p1, p2] = true) &&
  Nat.ble (sM p0 p1 p2).length 4096 && (sV (sU (sJ r0 r1 r2 r)) == sM p0 p1 p2 ++ crS) &&
  (match Txt.split (sM p0 p1 p2 ++ crS) crS with
   | x :: y :: z :: l => Nat.ble l.length 4096 && Txt.count x ⟨#[46]⟩ == (a : Int) && Txt.count y ⟨#[46]⟩ == (b : Int) && Txt.count z ⟨#[46]⟩ == (c : Int)
   | _ => false)
noncomputable def sAll (a b c kd r : Nat) : Bool := match kd with
  | 0 => sChk (dt a ++ ⟨#[97]⟩) (⟨#[98]⟩ ++ dt b) (⟨#[99]⟩ ++ dt c) (⟨#[46]⟩ ++ (dt a ++ ⟨#[97]⟩)) (⟨#[98]⟩ ++ dt b) (⟨#[99]⟩ ++ dt c) (dt a ++ ⟨#[97]⟩) r (a + 1) b c
  | 1 => sChk (⟨#[97]⟩ ++ dt a) (dt b ++ ⟨#[98]⟩) (⟨#[99]⟩ ++ dt c) (⟨#[97]⟩ ++ dt a) (⟨#[46]⟩ ++ (dt b ++ ⟨#[98]⟩)) (⟨#[99]⟩ ++ dt c) (dt b ++ ⟨#[98]⟩) r a (b + 1) c
  | _ => sChk (⟨#[97]⟩ ++ dt a) (⟨#[98]⟩ ++ dt b) (dt c ++ ⟨#[99]⟩) (⟨#[97]⟩ ++ dt a) (⟨#[98]⟩ ++ dt b) (⟨#[46]⟩ ++ (dt c ++ ⟨#[99]⟩)) (dt c ++ ⟨#[99]⟩) r a b (c + 1)
/-- the dots ahead of a letter -/
noncomputable def preD (a b c kd : Nat) : Bool := Nat.ble 1 a && Nat.ble a 4 && Nat.ble 1 b && Nat.ble b a && Nat.ble 1 c && Nat.ble c a && (!(Nat.beq kd 0) || Nat.ble a 3)
noncomputable def preLa (a : Nat) : List (Nat × Nat × Nat × Nat) := (List.range 5).flatMap fun b => (List.range 5).flatMap fun c => (List.range 3).flatMap fun k => if preD a b c k = true then [(a, b, c, k)] else []
noncomputable def preL : List (Nat × Nat × Nat × Nat) := (List.range 5).flatMap preLa
noncomputable def sPart (a r : Nat) : Bool := (preLa a).all fun x => sAll x.1 x.2.1 x.2.2.1 x.2.2.2 r
theorem tS10 : sPart 1 0 = true := by decide +kernel
theorem tS11 : sPart 1 1 = true := by decide +kernel
theorem tS12 : sPart 1 2 = true := by decide +kernel
theorem tS20 : sPart 2 0 = true := by decide +kernel
theorem tS21 : sPart 2 1 = true := by decide +kernel
theorem tS22 : sPart 2 2 = true := by decide +kernel
theorem tS30 : sPart 3 0 = true := by decide +kernel
theorem tS31 : sPart 3 1 = true := by decide +kernel
theorem tS32 : sPart 3 2 = true := by decide +kernel
theorem tS40 : sPart 4 0 = true := by decide +kernel
theorem tS41 : sPart 4 1 = true := by decide +kernel
theorem tS42 : sPart 4 2 = true := by decide +kernel
theorem sPart_all {a r : Nat} (ha : a < 5) (hr : r < 3) : sPart a r = true := by
  rcases (show a = 0 ∨ a = 1 ∨ a = 2 ∨ a = 3 ∨ a = 4 by omega) with rfl | rfl | rfl | rfl | rfl <;> rcases (show r = 0 ∨ r = 1 ∨ r = 2 by omega) with rfl | rfl | rfl
  · exact rfl
  · exact rfl
  · exact rfl
  · exact tS10
  · exact tS11
  · exact tS12
  · exact tS20
  · exact tS21
  · exact tS22
  · exact tS30
  · exact tS31
  · exact tS32
  · exact tS40
  · exact tS41
  · exact tS42
theorem tblS : (preL.all fun x => (List.range 3).all fun r => sAll x.1 x.2.1 x.2.2.1 x.2.2.2 r) = true := by
  unfold preL
  rw [List.all_flatMap, List.all_eq_true]
  intro a ha
  rw [List.all_eq_true]
  intro x hx
  rw [List.all_eq_true]
  intro r hr
  exact List.all_eq_true.mp (sPart_all (List.mem_range.mp ha) (List.mem_range.mp hr)) x hx
end Mine
end
section
open PySem PySem.W PySem.Calls PyProof.Rows
set_option Elab.async false
set_option maxRecDepth 100000
set_option maxHeartbeats 4000000
set_option linter.unusedSimpArgs false
namespace Mine
@[simp] theorem two_ss {γ : Type} (f : Str → Str → Option γ) (a b : Str) : two dS dS f (.str a) (.str b) = f a b := rfl
@[simp] theorem two_ii {γ : Type} (f : Int → Int → Option γ) (a b : Int) : two dI dI f (.int a) (.int b) = f a b := rfl
@[simp] theorem isNo_none : isNo .none = true := rfl
theorem orP_l {α : Type} {a b : Option α} {x : α} (h : a = some x) : orP a b = some x := by rw [h]; rfl
theorem leP_of {n : Nat} {d : D} (h : n ≤ lid) : leP' n d = some d := by
  unfold leP'; rw [Nat.ble_eq_true_of_le h]
theorem addS {x y : Str} (h : x.length + y.length ≤ lid) : binP .Add (.str x) (.str y) = some (.str (x ++ y)) := if_pos h
theorem nl_len (r : Nat) : (nlS r).length ≤ 2 := by
  unfold nlS; split <;> decide
theorem le_lid {n : Nat} (h : n ≤ 4096) : n ≤ lid := Nat.le_trans h (by decide)
theorem sub1 {x : Str} (h : x.length ≤ 4096) : subP 1 ⟨#[46, 46]⟩ x = some (.str (sV x)) := by
  unfold subP; rw [if_pos ⟨h, by decide, by decide +kernel⟩]; rfl
theorem sub2 {x : Str} (h : x.length ≤ 4096) : subP 2 ⟨#[13, 10]⟩ x = some (.str (sU x)) := by
  unfold subP; rw [if_pos ⟨h, by decide, by decide +kernel⟩]; rfl
theorem quote_ok (n : Nat) (st : Store) {j : Str} (h1 : j.length ≤ 4096) (h2 : (sU j).length ≤ 4096) : callF F1 (n + 10) 1 [.str j] st = some (.str (sV (sU j)), st) := by
  simp [callF, F1, pf1, setAll, D.refsLts, D.refsLt, run, exec1, ev, Vars.get, Vars.set, sub1, sub2, h1, h2]
theorem joinL (st : Store) (x : Str) (l : List Str) (h : JoinOk x l = true) : meP st .join (.str x) [.lst (l.map .str)] = some (.str (Txt.join x l)) := by
  have : strsOf (l.map .str) = some l := by
    clear h; induction l with
    | nil => rfl
    | cons a r ih => simp [strsOf, ih]
  show (Option.bind (strsOf (l.map .str)) fun l => if JoinOk x l = true then some (D.str (Txt.join x l)) else none) = _
  rw [this]
  exact if_pos h
theorem joinR (st : Store) (x : Str) (i : Nat) (l : List Str) (hs : st[i]? = some (.ml (l.map .str))) (h : JoinOk x l = true) : meP st .join (.str x) [.ref i] = some (.str (Txt.join x l)) := by
  have : strsOf (l.map .str) = some l := by
    clear h hs; induction l with
    | nil => rfl
    | cons a r ih => simp [strsOf, ih]
  show (Option.bind (asList st (.ref i)) fun l => Option.bind (strsOf l) fun l => if JoinOk x l = true then some (D.str (Txt.join x l)) else none) = _
  have h2 : asList st (.ref i) = some (l.map .str) := by
    show orP none ((Option.bind (st[i]?) fun m => (dMl m).map fun l => (i, l)).map (·.2)) = _
    rw [hs]; rfl
  rw [h2]
  show (Option.bind (strsOf (l.map .str)) fun l => if JoinOk x l = true then some (D.str (Txt.join x l)) else none) = _
  rw [this]
  exact if_pos h
theorem fmod3 (f k : Nat) : binP .Mod (.int ((f : Int) + (k : Int))) (.int 3) = some (.int ((f + k) % 3 : Nat)) := by
  show (if (3 : Int) = 0 then none else some (D.int (Int.fmod _ 3))) = _
  rw [if_neg (by decide)]
  refine congrArg (fun x => some (D.int x)) ?_
  rw [Int.fmod_eq_emod_of_nonneg _ (by decide)]; omega
theorem nl_idx (st : Store) (r : Nat) (h : r < 3) : idxP st (.lst [.str ⟨#[10]⟩, .str ⟨#[13]⟩, .str ⟨#[13, 10]⟩]) (.int r) = some (.str (nlS r)) := by
  match r, h with
  | 0, _ => rfl
  | 1, _ => rfl
  | 2, _ => rfl
noncomputable abbrev rest3 : List PS := [
  (.asg 6 (.call 1 [(.me .join (.lit (.str ⟨#[]⟩)) [(.comp (.bin .Add (.idx (.var 4) (.var 5)) (.idx (.lst [(.lit (.str ⟨#[10]⟩)), (.lit (.str ⟨#[13]⟩)), (.lit (.str ⟨#[13, 10]⟩))]) (.bin .Mod (.bin .Add (.var 2) (.var 5)) (.lit (.int 3))))) 5 (.fn .range1 [(.lit (.int 3))]) .none)])])),
  (.seti 4 (.var 1) (.bin .Add (.lit (.str ⟨#[46]⟩)) (.idx (.var 4) (.var 1)))),
  (.ifs (.cmp1 .NotEq (.var 6) (.bin .Add (.me .join (.lit (.str ⟨#[13, 10]⟩)) [(.var 4)]) (.lit (.str ⟨#[13, 10]⟩)))) [(.ret (.lst []))] []),
  (.ret (.comp (.me .count (.var 7) [(.lit (.str ⟨#[46]⟩))]) 7 (.slc (.me .split (.var 6) [(.lit (.str ⟨#[13, 10]⟩))]) .none (some (.lit (.int 3)))) .none))]
theorem pf3_body : pf3.body = s31 :: rest3 := by rfl
theorem t31 (n : Nat) (a b c : Nat) (f : Int) (ha : a ≤ 8) (hb : b ≤ 8) (hc : c ≤ 8) : exec1 F1 (n + 20) [(0, dD a b c), (1, .int 0), (2, .int f)] [] s31 = some (.next, [(0, dD a b c), (1, .int 0), (2, .int f), (4, .ref 0)], [.ml [.str (dt a ++ ⟨#[97]⟩), .str (⟨#[98]⟩ ++ dt b), .str (⟨#[99]⟩ ++ dt c)]]) := by
  simp [exec1, ev, evs, evT, rng3, its3, compGo, Vars.get, cEq, ix0, ix1, ix2, ixa, ixb, ixc, mul_dt, add_dt1, add_dt2, ha, hb, hc, lid, Vars.set]
theorem t32 (n : Nat) (a b c : Nat) (f : Int) (ha : a ≤ 8) (hb : b ≤ 8) (hc : c ≤ 8) : exec1 F1 (n + 20) [(0, dD a b c), (1, .int 1), (2, .int f)] [] s31 = some (.next, [(0, dD a b c), (1, .int 1), (2, .int f), (4, .ref 0)], [.ml [.str (⟨#[97]⟩ ++ dt a), .str (dt b ++ ⟨#[98]⟩), .str (⟨#[99]⟩ ++ dt c)]]) := by
  simp [exec1, ev, evs, evT, rng3, its3, compGo, Vars.get, cEq, ix0, ix1, ix2, ixa, ixb, ixc, mul_dt, add_dt1, add_dt2, ha, hb, hc, lid, Vars.set]
theorem t33 (n : Nat) (a b c : Nat) (f : Int) (ha : a ≤ 8) (hb : b ≤ 8) (hc : c ≤ 8) : exec1 F1 (n + 20) [(0, dD a b c), (1, .int 2), (2, .int f)] [] s31 = some (.next, [(0, dD a b c), (1, .int 2), (2, .int f), (4, .ref 0)], [.ml [.str (⟨#[97]⟩ ++ dt a), .str (⟨#[98]⟩ ++ dt b), .str (dt c ++ ⟨#[99]⟩)]]) := by
  simp [exec1, ev, evs, evT, rng3, its3, compGo, Vars.get, cEq, ix0, ix1, ix2, ixa, ixb, ixc, mul_dt, add_dt1, add_dt2, ha, hb, hc, lid, Vars.set]
theorem rix0 (a b c : D) (st : Store) : idxP (.ml [a, b, c] :: st) (.ref 0) (.int 0) = some a := by rfl
theorem rix1 (a b c : D) (st : Store) : idxP (.ml [a, b, c] :: st) (.ref 0) (.int 1) = some b := by rfl
theorem rix2 (a b c : D) (st : Store) : idxP (.ml [a, b, c] :: st) (.ref 0) (.int 2) = some c := by rfl
theorem fmod30 (f : Nat) : binP .Mod (.int (f : Int)) (.int 3) = some (.int (f % 3 : Nat)) := fmod3 f 0
theorem fmod31 (f : Nat) : binP .Mod (.int ((f : Int) + 1)) (.int 3) = some (.int ((f + 1) % 3 : Nat)) := fmod3 f 1
theorem fmod32 (f : Nat) : binP .Mod (.int ((f : Int) + 2)) (.int 3) = some (.int ((f + 2) % 3 : Nat)) := fmod3 f 2
theorem addI (a b : Int) : binP .Add (.int a) (.int b) = some (.int (a + b)) := rfl
theorem ne_same (st : Store) (x : Str) : cmpP st .NotEq (.str x) (.str x) = some false := by
  show some (x != x) = some false
  simp

/-- what the mail's list of strings gives -/
noncomputable abbrev cmp3 : PE := (.comp (.bin .Add (.idx (.var 4) (.var 5)) (.idx (.lst [(.lit (.str ⟨#[10]⟩)), (.lit (.str ⟨#[13]⟩)), (.lit (.str ⟨#[13, 10]⟩))]) (.bin .Mod (.bin .Add (.var 2) (.var 5)) (.lit (.int 3))))) 5 (.fn .range1 [(.lit (.int 3))]) .none)
theorem t3c (n f : Nat) (d kd : D) (r0 r1 r2 : Str) (h0 : r0.length + 2 ≤ 4096) (h1 : r1.length + 2 ≤ 4096) (h2 : r2.length + 2 ≤ 4096) : ev F1 (n + 15) [(0, d), (1, kd), (2, .int f), (4, .ref 0)] [.ml [.str r0, .str r1, .str r2]] cmp3 =
    some (.lst [.str (r0 ++ nlS (f % 3)), .str (r1 ++ nlS ((f + 1) % 3)), .str (r2 ++ nlS ((f + 2) % 3))], [.ml [.str r0, .str r1, .str r2]]) := by
  have q0 := nl_idx [.ml [.str r0, .str r1, .str r2]] (f % 3) (Nat.mod_lt _ (by decide))
  have q1 := nl_idx [.ml [.str r0, .str r1, .str r2]] ((f + 1) % 3) (Nat.mod_lt _ (by decide))
  have q2 := nl_idx [.ml [.str r0, .str r1, .str r2]] ((f + 2) % 3) (Nat.mod_lt _ (by decide))
  have a0 := addS (x := r0) (y := nlS (f % 3)) (by have := nl_len (f % 3); exact le_lid (by omega))
  have a1 := addS (x := r1) (y := nlS ((f + 1) % 3)) (by have := nl_len ((f + 1) % 3); exact le_lid (by omega))
  have a2 := addS (x := r2) (y := nlS ((f + 2) % 3)) (by have := nl_len ((f + 2) % 3); exact le_lid (by omega))
  simp [-Int.natCast_emod, ev, evs, rng3, its3, compGo, Vars.get, rix0, rix1, rix2, Vars.set, lid, addI, fmod30, fmod31, fmod32, q0, q1, q2, a0, a1, a2]
theorem evs1 {F : Nat → Option PF} {n : Nat} {σ : Vars} {st s1 : Store} {a : PE} {x : D} (h : ev F (n + 1) σ st a = some (x, s1)) : evs F (n + 2) σ st [a] = some ([x], s1) := by
  rw [evs.eq_def]; dsimp only; rw [h]; dsimp only [Option.bind_some]
  rw [evs.eq_def]; rfl
theorem ev_call1 {F : Nat → Option PF} {n g : Nat} {σ : Vars} {st s1 : Store} {a : PE} {x : D} (h : ev F (n + 1) σ st a = some (x, s1)) : ev F (n + 3) σ st (.call g [a]) = callF F (n + 2) g [x] s1 := by
  rw [ev.eq_def]; dsimp only; rw [evs1 h]; rfl
theorem ev_me1 {F : Nat → Option PF} {n : Nat} {m : Me} {σ : Vars} {st s1 : Store} {a : PE} {d x : D} (h : ev F (n + 1) σ st a = some (x, s1)) : ev F (n + 3) σ st (.me m (.lit d) [a]) = (meP s1 m d [x]).map fun d => (d, s1) := by
  rw [ev.eq_def]; dsimp only; rw [ev.eq_def]; dsimp only [Option.bind_some]; rw [evs1 h]; rfl
noncomputable abbrev s33 : PS := (.seti 4 (.var 1) (.bin .Add (.lit (.str ⟨#[46]⟩)) (.idx (.var 4) (.var 1))))
noncomputable abbrev s34 : PS := (.ifs (.cmp1 .NotEq (.var 6) (.bin .Add (.me .join (.lit (.str ⟨#[13, 10]⟩)) [(.var 4)]) (.lit (.str ⟨#[13, 10]⟩)))) [(.ret (.lst []))] [])
noncomputable abbrev s35p : PS := (.ret (.comp (.me .count (.var 7) [(.lit (.str ⟨#[46]⟩))]) 7 (.slc (.me .split (.var 6) [(.lit (.str ⟨#[13, 10]⟩))]) .none (some (.lit (.int 3)))) .none))
theorem rest3_is : rest3 = [.asg 6 (.call 1 [(.me .join (.lit (.str ⟨#[]⟩)) [cmp3])]), s33, s34, s35p] := rfl
theorem slc3 (x y z : D) (l : List D) (h : l.length ≤ 4096) : slcP (.lst (x :: y :: z :: l)) .none (some (.int 3)) = some (.lst [x, y, z]) := by
  show (if (0 : Int) ≤ 3 ∧ (3 : Int).toNat ≤ (x :: y :: z :: l).length ∧ (x :: y :: z :: l).length ≤ lid then some (D.lst ((x :: y :: z :: l).take (3 : Int).toNat)) else none) = _
  rw [if_pos ⟨by decide, by simp, by simp [lid]; omega⟩]
  rfl
theorem split_ok (st : Store) (x : Str) (h : x.length ≤ 8192) : meP st .split (.str x) [.str crS] = some (.lst ((Txt.split x crS).map .str)) := by
  unfold meP
  exact if_pos ⟨by decide, by unfold lid; omega⟩
theorem count_ok (st : Store) (x y : Str) : meP st .count (.str x) [.str y] = some (.int (Txt.count x y)) := rfl
theorem sChk_run {r0 r1 r2 p0 p1 p2 q : Str} {kd a b c f : Nat} (n : Nat) (d : D) (hk : kd < 3) (hq : [r0, r1, r2][kd]? = some q) (hp : [r0, r1, r2].set kd (⟨#[46]⟩ ++ q) = [p0, p1, p2]) (h : sChk r0 r1 r2 p0 p1 p2 q (f % 3) a b c = true) :
    run F1 (n + 30) [(0, d), (1, .int kd), (2, .int f), (4, .ref 0)] [.ml [.str r0, .str r1, .str r2]] rest3 =
      some (.ret (dD a b c), [(0, d), (1, .int kd), (2, .int f), (4, .ref 0), (6, .str (sM p0 p1 p2 ++ crS))], [.ml [.str p0, .str p1, .str p2]]) := by
  unfold sChk at h
  simp only [Bool.and_eq_true, Nat.ble_eq, decide_eq_true_eq, beq_iff_eq] at h
  obtain ⟨⟨⟨⟨⟨⟨⟨⟨⟨⟨h0, h1⟩, h2⟩, h3⟩, h4⟩, h5⟩, h6⟩, h7⟩, h8⟩, h9⟩, h10⟩ := h
  have e1 : (f % 3 + 1) % 3 = (f + 1) % 3 := by omega
  have e2 : (f % 3 + 2) % 3 = (f + 2) % 3 := by omega
  have j := joinL [.ml [.str r0, .str r1, .str r2]] ⟨#[]⟩ [r0 ++ nlS (f % 3), r1 ++ nlS ((f + 1) % 3), r2 ++ nlS ((f + 2) % 3)] (by rw [e1, e2] at h4; exact h4)
  have hj : Txt.join ⟨#[]⟩ [r0 ++ nlS (f % 3), r1 ++ nlS ((f + 1) % 3), r2 ++ nlS ((f + 2) % 3)] = sJ r0 r1 r2 (f % 3) := by unfold sJ; rw [e1, e2]
  rw [hj] at j
  have qq := fun n => quote_ok n [.ml [.str r0, .str r1, .str r2]] h5 h6
  have e := fun n => t3c n f d (.int kd) r0 r1 r2 h0 h1 h2
  have s2 : exec1 F1 (n + 29) [(0, d), (1, .int kd), (2, .int f), (4, .ref 0)] [.ml [.str r0, .str r1, .str r2]] (.asg 6 (.call 1 [(.me .join (.lit (.str ⟨#[]⟩)) [cmp3])])) = some (.next, [(0, d), (1, .int kd), (2, .int f), (4, .ref 0), (6, .str (sV (sU (sJ r0 r1 r2 (f % 3)))))], [.ml [.str r0, .str r1, .str r2]]) := by
    have e : ev F1 (n + 24) _ _ _ = _ := e (n + 9)
    have qq : callF F1 (n + 27) _ _ _ = _ := qq (n + 17)
    simp only [List.map] at j
    have u := ev_me1 (m := .join) (d := .str ⟨#[]⟩) e
    rw [j] at u
    have u2 := ev_call1 (g := 1) (F := F1) (n := n + 25) u
    rw [qq] at u2
    rw [exec1.eq_def]; dsimp only; rw [u2]; rfl
  rw [h9] at s2
  have s3 : exec1 F1 (n + 28) [(0, d), (1, .int kd), (2, .int f), (4, .ref 0), (6, .str (sM p0 p1 p2 ++ crS))] [.ml [.str r0, .str r1, .str r2]] s33 = some (.next, [(0, d), (1, .int kd), (2, .int f), (4, .ref 0), (6, .str (sM p0 p1 p2 ++ crS))], [.ml [.str p0, .str p1, .str p2]]) := by
    have g := addS (x := ⟨#[46]⟩) (y := q) (by have : q.length + 1 ≤ lid := le_lid h3; show 1 + q.length ≤ lid; omega)
    match kd, hk with
    | 0, _ => 
      simp at hp hq; obtain ⟨z1, z2, z3⟩ := hp; subst hq
      simp [exec1, ev, Vars.get, rix0, g, lid, z1, z2, z3]
    | 1, _ => 
      simp at hp hq; obtain ⟨z1, z2, z3⟩ := hp; subst hq
      simp [exec1, ev, Vars.get, rix1, g, lid, z1, z2, z3]
    | 2, _ => 
      simp at hp hq; obtain ⟨z1, z2, z3⟩ := hp; subst hq
      simp [exec1, ev, Vars.get, rix2, g, lid, z1, z2, z3]
  have s4 : exec1 F1 (n + 27) [(0, d), (1, .int kd), (2, .int f), (4, .ref 0), (6, .str (sM p0 p1 p2 ++ crS))] [.ml [.str p0, .str p1, .str p2]] s34 = some (.next, [(0, d), (1, .int kd), (2, .int f), (4, .ref 0), (6, .str (sM p0 p1 p2 ++ crS))], [.ml [.str p0, .str p1, .str p2]]) := by
    have g := joinR [.ml [.str p0, .str p1, .str p2]] crS 0 [p0, p1, p2] rfl h7
    have g2 := addS (x := sM p0 p1 p2) (y := crS) (by have : (sM p0 p1 p2).length ≤ 4096 := h8; show (sM p0 p1 p2).length + 2 ≤ lid; unfold lid; omega)
    have g3 : Txt.join crS [p0, p1, p2] = sM p0 p1 p2 := rfl
    rw [g3] at g
    simp only [exec1, evT, ev, Vars.get, Nat.beq, Option.map_some, Option.bind_some, evs, g, g2, ne_same, run]
  have s5 : exec1 F1 (n + 26) [(0, d), (1, .int kd), (2, .int f), (4, .ref 0), (6, .str (sM p0 p1 p2 ++ crS))] [.ml [.str p0, .str p1, .str p2]] s35p = some (.ret (dD a b c), [(0, d), (1, .int kd), (2, .int f), (4, .ref 0), (6, .str (sM p0 p1 p2 ++ crS))], [.ml [.str p0, .str p1, .str p2]]) := by
    have g := split_ok [.ml [.str p0, .str p1, .str p2]] (sM p0 p1 p2 ++ crS) (by
      have : (sM p0 p1 p2 ++ crS).length = (sM p0 p1 p2).length + 2 := by
        show (_ ++ _ : Array Nat).size = _
        rw [Array.size_append]; rfl
      omega)
    generalize Txt.split (sM p0 p1 p2 ++ crS) crS = sp at g h10
    match sp, h10 with
    | x :: y :: z :: l, h10 =>
      simp only [Bool.and_eq_true, Nat.ble_eq, beq_iff_eq] at h10
      obtain ⟨⟨⟨k1, k2⟩, k3⟩, k4⟩ := h10
      simp only [List.map] at g
      have g2 := slc3 (.str x) (.str y) (.str z) (l.map .str) (by simpa using k1)
      simp [exec1, ev, evO, Vars.get, evs, g, g2, items, lid, compGo, Vars.set, count_ok, k2, k3, k4]
  rw [rest3_is]
  rw [run, s2]; dsimp only [Option.bind_some]
  rw [run, s3]; dsimp only [Option.bind_some]
  rw [run, s4]; dsimp only [Option.bind_some]
  rw [run, s5]; dsimp only [Option.bind_some]
theorem sent_0 (n a b c f : Nat) (h : sAll a b c 0 (f % 3) = true) (ha : a ≤ 8) (hb : b ≤ 8) (hc : c ≤ 8) (st : Store) : callF F1 (n + 40) 3 [dD a b c, .int 0, .int f] st = some (dD (a + 1) b c, st) := by
  have := sChk_run (kd := 0) (f := f) (n + 8) (dD a b c) (by decide) rfl rfl h
  have t := t31 (n + 18) a b c f ha hb hc
  simp only [callF, F1, pf3_body, show pf3.params = [0, 1, 2] from rfl, setAll, Option.bind_some, D.refsLts, D.refsLt, Bool.and_self, Vars.set, Nat.beq]
  rw [run, t]; dsimp only [Option.bind_some]
  erw [this]; rfl
theorem sent_1 (n a b c f : Nat) (h : sAll a b c 1 (f % 3) = true) (ha : a ≤ 8) (hb : b ≤ 8) (hc : c ≤ 8) (st : Store) : callF F1 (n + 40) 3 [dD a b c, .int 1, .int f] st = some (dD a (b + 1) c, st) := by
  have := sChk_run (kd := 1) (f := f) (n + 8) (dD a b c) (by decide) rfl rfl h
  have t := t32 (n + 18) a b c f ha hb hc
  simp only [callF, F1, pf3_body, show pf3.params = [0, 1, 2] from rfl, setAll, Option.bind_some, D.refsLts, D.refsLt, Bool.and_self, Vars.set, Nat.beq]
  rw [run, t]; dsimp only [Option.bind_some]
  erw [this]; rfl
theorem sent_2 (n a b c f : Nat) (h : sAll a b c 2 (f % 3) = true) (ha : a ≤ 8) (hb : b ≤ 8) (hc : c ≤ 8) (st : Store) : callF F1 (n + 40) 3 [dD a b c, .int 2, .int f] st = some (dD a b (c + 1), st) := by
  have := sChk_run (kd := 2) (f := f) (n + 8) (dD a b c) (by decide) rfl rfl h
  have t := t33 (n + 18) a b c f ha hb hc
  simp only [callF, F1, pf3_body, show pf3.params = [0, 1, 2] from rfl, setAll, Option.bind_some, D.refsLts, D.refsLt, Bool.and_self, Vars.set, Nat.beq]
  rw [run, t]; dsimp only [Option.bind_some]
  erw [this]; rfl
end Mine
end
section
open PySem PySem.W PySem.Calls PyProof.Rows
set_option Elab.async false
set_option maxRecDepth 100000
set_option maxHeartbeats 4000000
namespace Mine
noncomputable def over (a b c : Nat) : Bool := Nat.blt a b || Nat.blt a c
noncomputable def apRes (r : Option (D × Store)) (x y : Option D) (o : Bool) : Bool := match r, x, y with
  | some (.int v, []), some (.int x), some (.int y) => decide (0 ≤ v) && (decide (v > x - y) == o)
  | _, _, _ => false
noncomputable def apChk (n a b c corner : Nat) : Bool := apRes (callF F1 (n + 40) 4 [dD a b c, .int corner] []) (fnP [] .maxL [dD a b c]) (fnP [] .minL [dD a b c]) (over a b c)
/-- the dots behind a letter -/
noncomputable def postD (a b c : Nat) : Bool := Nat.ble 1 a && Nat.ble a 4 && Nat.ble 1 b && Nat.ble b (a + 1) && Nat.ble 1 c && Nat.ble c (a + 1) && (Nat.ble b a || Nat.ble c a) && !(Nat.beq a 1 && Nat.beq b 1 && Nat.beq c 1)
noncomputable def postL (a : Nat) : List (Nat × Nat × Nat) := (List.range 6).flatMap fun b => (List.range 6).flatMap fun c => if postD a b c = true then [(a, b, c)] else []
noncomputable def apAll (n a r : Nat) : Bool := (postL a).all fun x => apChk n x.1 x.2.1 x.2.2 r
theorem tA10 (n : Nat) : apAll n 1 0 = true := by kernel_rfl
theorem tA20 (n : Nat) : apAll n 2 0 = true := by kernel_rfl
theorem tA30 (n : Nat) : apAll n 3 0 = true := by kernel_rfl
theorem tA40 (n : Nat) : apAll n 4 0 = true := by kernel_rfl
theorem tA11 (n : Nat) : apAll n 1 1 = true := by kernel_rfl
theorem tA21 (n : Nat) : apAll n 2 1 = true := by kernel_rfl
theorem tA31 (n : Nat) : apAll n 3 1 = true := by kernel_rfl
theorem tA41 (n : Nat) : apAll n 4 1 = true := by kernel_rfl
theorem tA12 (n : Nat) : apAll n 1 2 = true := by kernel_rfl
theorem tA22 (n : Nat) : apAll n 2 2 = true := by kernel_rfl
theorem tA32 (n : Nat) : apAll n 3 2 = true := by kernel_rfl
theorem tA42 (n : Nat) : apAll n 4 2 = true := by kernel_rfl
theorem tA13 (n : Nat) : apAll n 1 3 = true := by kernel_rfl
theorem tA23 (n : Nat) : apAll n 2 3 = true := by kernel_rfl
theorem tA33 (n : Nat) : apAll n 3 3 = true := by kernel_rfl
theorem tA43 (n : Nat) : apAll n 4 3 = true := by kernel_rfl
theorem tA14 (n : Nat) : apAll n 1 4 = true := by kernel_rfl
theorem tA24 (n : Nat) : apAll n 2 4 = true := by kernel_rfl
theorem tA34 (n : Nat) : apAll n 3 4 = true := by kernel_rfl
theorem tA44 (n : Nat) : apAll n 4 4 = true := by kernel_rfl
theorem tA15 (n : Nat) : apAll n 1 5 = true := by kernel_rfl
theorem tA25 (n : Nat) : apAll n 2 5 = true := by kernel_rfl
theorem tA35 (n : Nat) : apAll n 3 5 = true := by kernel_rfl
theorem tA45 (n : Nat) : apAll n 4 5 = true := by kernel_rfl
end Mine
end
section
open PySem PySem.W PySem.Calls PyProof.Rows
set_option Elab.async false
set_option maxRecDepth 100000
set_option maxHeartbeats 4000000
set_option linter.unusedSimpArgs false
namespace Mine
noncomputable abbrev bl (n : Nat) : Str := Txt.mul ⟨#[32]⟩ (n : Int)
noncomputable abbrev pr (i : Nat) : D := .tup [.str (bl i), .str ⟨#[97]⟩]
noncomputable def prD : Option Nat → D
  | none => .tup [.str ⟨#[]⟩, .str ⟨#[]⟩]
  | some i => pr i
noncomputable abbrev pileS (p : List Nat) : MO := .acc (p.reverse.map pr)
theorem mul_bl (k : Nat) (h : k ≤ lid) : binP .Mult (.str ⟨#[32]⟩) (.int k) = some (.str (bl k)) := by
  show (if (Str.length ⟨#[32]⟩ ≤ 16 ∧ (k : Int).natAbs ≤ lid) then _ else _) = _
  rw [if_pos ⟨by decide, by simpa using h⟩]
theorem ch_eq (c d : Nat) : ((⟨#[c]⟩ : Str) == ⟨#[d]⟩) = Nat.beq c d := by
  cases h : Nat.beq c d with
  | true => rw [Nat.eq_of_beq_eq_true h]; simp
  | false =>
    rw [beq_eq_false_iff_ne]
    intro e
    have : c = d := by injection e with e; simpa using e
    rw [this, Nat.beq_refl] at h; cases h
theorem cEqS (st : Store) (c d : Nat) : cmpP st .Eq (.str ⟨#[c]⟩) (.str ⟨#[d]⟩) = some (Nat.beq c d) := by
  rw [← ch_eq]; rfl
theorem S_len (w : List Nat) : (S w).length = w.length := by
  show w.toArray.size = _; simp
theorem idxS (st : Store) {w : List Nat} {k c : Nat} (h : w[k]? = some c) (hl : w.length ≤ 4096) : idxP st (.str (S w)) (.int k) = some (.str ⟨#[c]⟩) := by
  have hk : k < w.length := (List.getElem?_eq_some_iff.mp h).1
  refine orP_l ?_
  show (if (k : Int).natAbs ≤ lid then ((seqIndex? (k : Int) (S w).length).bind ((S w).cps[·]?)).map fun c => D.str ⟨#[c]⟩ else none) = _
  rw [if_pos (by simp [lid]; omega), S_len]
  have : seqIndex? (k : Int) w.length = some k := by
    unfold seqIndex?
    simp [show ¬ ((k : Int) < 0) by omega, hk]
  rw [this]
  show (w.toArray[k]?).map _ = _
  simp [h]
theorem idxSl (st : Store) {w : List Nat} {c : Nat} (h : w.getLast? = some c) (hl : w.length ≤ 4096) : idxP st (.str (S w)) (.int (-1)) = some (.str ⟨#[c]⟩) := by
  have hk : 0 < w.length := by cases w with | nil => cases h | cons => simp
  refine orP_l ?_
  show (if (-1 : Int).natAbs ≤ lid then ((seqIndex? (-1 : Int) (S w).length).bind ((S w).cps[·]?)).map fun c => D.str ⟨#[c]⟩ else none) = _
  rw [if_pos (by decide), S_len]
  have : seqIndex? (-1 : Int) w.length = some (w.length - 1) := by
    unfold seqIndex?
    simp only [show ((-1 : Int) < 0) by decide, if_true]
    rw [if_pos (by simp; omega)]
    congr 1; omega
  rw [this]
  show (w.toArray[w.length - 1]?).map _ = _
  rw [List.getLast?_eq_getElem?] at h
  simp [h]
theorem push20_ok (n : Nat) {st : Store} {i : Nat} {l : List D} (x y : Str) (hs : st[i]? = some (.acc l)) (hl : l.length ≤ lid) : callF F1 (n + 15) 20 [.ref i, .str x, .str y] st = some (.none, st.set i (.acc (l ++ [.tup [.str x, .str y]]))) := by
  simp [callF, F1, pf20, setAll, D.refsLts, D.refsLt, run, exec1, ev, evs, Vars.get, Vars.set, hs, hl, show Nat.blt i 0 = false from rfl]

noncomputable def lastR (e : Nat) (l : List Nat) : Nat → List Nat → Option Nat → Option Nat :=
  List.rec (motive := fun _ => Nat → List Nat → Option Nat → Option Nat) (fun _ _ pc => pc)
    (fun c _ ih k p pc => Bool.rec (motive := fun _ => Option Nat)
      (Bool.rec (motive := fun _ => Option Nat) (ih (Nat.succ k) p pc)
        (List.rec (motive := fun _ => Option Nat) (ih (Nat.succ k) [] none) (fun x p _ => ih (Nat.succ k) p (some x)) p) (Nat.beq c e))
      (ih (Nat.succ k) (k :: p) pc) (Nat.beq c 97)) l
noncomputable abbrev lastGo (e k : Nat) (r p : List Nat) (pc : Option Nat) : Option Nat := lastR e r k p pc
theorem lastGo_cons (e k c : Nat) (r p : List Nat) (pc : Option Nat) : lastGo e k (c :: r) p pc = match Nat.beq c 97 with
    | true => lastGo e (k + 1) r (k :: p) pc
    | false => match Nat.beq c e with
      | true => (match p with | [] => lastGo e (k + 1) r [] none | x :: p => lastGo e (k + 1) r p (some x))
      | false => lastGo e (k + 1) r p pc := by
  unfold lastGo lastR
  dsimp only
  cases Nat.beq c 97
  · cases Nat.beq c e
    · rfl
    · cases p <;> rfl
  · rfl
noncomputable abbrev b5 : List PS := [(.ifs (.cmp1 .Eq (.idx (.var 0) (.var 3)) (.lit (.str ⟨#[97]⟩))) [(.ex (.meth 20 (.var 1) [(.bin .Mult (.lit (.str ⟨#[32]⟩)) (.var 3)), (.lit (.str ⟨#[97]⟩))]))] [(.ifs (.cmp1 .Eq (.idx (.var 0) (.var 3)) (.idx (.var 0) (.neg (.lit (.int 1))))) [(.asg 2 (.accPop (.var 1)))] [])])]
theorem pf5_body : pf5.body = [(.asg 1 .acc0), (.asg 2 (.tup [(.lit (.str ⟨#[]⟩)), (.lit (.str ⟨#[]⟩))])), (.for1 3 (.fn .range1 [(.fn .len [(.var 0)])]) b5), (.ret (.var 2))] := rfl
noncomputable abbrev ixs (k m : Nat) : List D := (List.range' k m).map fun i : Nat => D.int (i : Int)
theorem ixs_succ (k m : Nat) : ixs k (m + 1) = .int k :: ixs (k + 1) m := rfl
theorem pile_get (k : Nat) (p : List Nat) : ((k :: p).reverse.map pr) = p.reverse.map pr ++ [pr k] := by simp
theorem last_a (n : Nat) {w p : List Nat} {k : Nat} {σ : Vars} (hc : w[k]? = some 97) (hl : w.length ≤ 4096) (hp : p.length ≤ 4096) (h0 : σ.get 0 = some (.str (S w))) (h1 : σ.get 1 = some (.ref 0)) :
    run F1 (n + 30) (σ.set 3 (.int k)) [pileS p] b5 = some (.next, σ.set 3 (.int k), [pileS (k :: p)]) := by
  have hk : k < w.length := (List.getElem?_eq_some_iff.mp hc).1
  have g := fun n => push20_ok n (st := [pileS p]) (i := 0) (bl k) ⟨#[97]⟩ rfl (by simp [lid]; omega)
  have g : callF F1 (n + 25) 20 [.ref 0, .str (bl k), .str ⟨#[97]⟩] [pileS p] = _ := g (n + 10)
  have i1 := fun st => idxS st hc hl
  have m1 := mul_bl k (by unfold lid; omega)
  simp [run, exec1, ev, evs, evT, Vars.get_set, h0, h1, i1, cEqS, Nat.beq, m1, g]
theorem last_e (n : Nat) {w p : List Nat} {k c x : Nat} {σ : Vars} (hc : w[k]? = some c) (ha : Nat.beq c 97 = false) (he : w.getLast? = some c) (hl : w.length ≤ 4096) (hp : p.length + 1 ≤ 4096) (h0 : σ.get 0 = some (.str (S w))) (h1 : σ.get 1 = some (.ref 0)) :
    run F1 (n + 30) (σ.set 3 (.int k)) [pileS (x :: p)] b5 = some (.next, (σ.set 3 (.int k)).set 2 (pr x), [pileS p]) := by
  have i1 := fun st => idxS st hc hl
  have i2 := fun st => idxSl st he hl
  simp [run, exec1, ev, evs, evT, Vars.get_set, h0, h1, i1, i2, cEqS, ha, show p.length + 1 ≤ lid by unfold lid; omega]
theorem last_n (n : Nat) {w : List Nat} {k c : Nat} {σ : Vars} (hc : w[k]? = some c) (ha : Nat.beq c 97 = false) (he : w.getLast? = some c) (hl : w.length ≤ 4096) (h0 : σ.get 0 = some (.str (S w))) (h1 : σ.get 1 = some (.ref 0)) :
    run F1 (n + 30) (σ.set 3 (.int k)) [pileS []] b5 = some (.next, (σ.set 3 (.int k)).set 2 (prD none), [pileS []]) := by
  have i1 := fun st => idxS st hc hl
  have i2 := fun st => idxSl st he hl
  simp [run, exec1, ev, evs, evT, Vars.get_set, h0, h1, i1, i2, cEqS, ha, prD]
theorem last_o (n : Nat) {w p : List Nat} {k c e : Nat} {σ : Vars} (hc : w[k]? = some c) (ha : Nat.beq c 97 = false) (he : w.getLast? = some e) (hn : Nat.beq c e = false) (hl : w.length ≤ 4096) (h0 : σ.get 0 = some (.str (S w))) :
    run F1 (n + 30) (σ.set 3 (.int k)) [pileS p] b5 = some (.next, σ.set 3 (.int k), [pileS p]) := by
  have i1 := fun st => idxS st hc hl
  have i2 := fun st => idxSl st he hl
  simp [run, exec1, ev, evs, evT, Vars.get_set, h0, i1, i2, cEqS, ha, hn]
theorem drop_next {w : List Nat} {k c : Nat} {r : List Nat} (h : w.drop k = c :: r) : w[k]? = some c ∧ w.drop (k + 1) = r := by
  constructor
  · have := congrArg List.head? h
    simpa using this
  · have := congrArg List.tail h
    simpa using this
theorem last_go (n : Nat) {w : List Nat} {e : Nat} (he : w.getLast? = some e) (hl : w.length ≤ 2000) : ∀ (r p : List Nat) (k : Nat) (pc : Option Nat) (σ : Vars), w.drop k = r → p.length ≤ k → σ.get 0 = some (.str (S w)) → σ.get 1 = some (.ref 0) → σ.get 2 = some (prD pc) →
    ∃ σ' p', forGo (fun σ st => run F1 (n + 30) σ st b5) 3 (ixs k r.length) σ [pileS p] = some (.next, σ', [pileS p']) ∧ σ'.get 2 = some (prD (lastGo e k r p pc))
  | [], p, k, pc, σ, _, _, _, _, h2 => ⟨σ, p, rfl, h2⟩
  | c :: r, p, k, pc, σ, hw, hp, h0, h1, h2 => by
    obtain ⟨hc, hw'⟩ := drop_next hw
    have hk : k < w.length := (List.getElem?_eq_some_iff.mp hc).1
    rw [List.length_cons, ixs_succ, forGo, lastGo_cons]
    cases ha : Nat.beq c 97 with
    | true =>
      have := Nat.eq_of_beq_eq_true ha; subst this
      rw [last_a n hc (by omega) (by omega) h0 h1]; dsimp only [Option.bind_some]
      exact last_go n he hl r (k :: p) (k + 1) pc _ hw' (by simp; omega) (by simpa [Vars.get_set] using h0) (by simpa [Vars.get_set] using h1) (by simpa [Vars.get_set] using h2)
    | false =>
      dsimp only
      cases hn : Nat.beq c e with
      | true =>
        have := Nat.eq_of_beq_eq_true hn; subst this
        cases p with
        | nil =>
          rw [last_n n hc ha he (by omega) h0 h1]; dsimp only [Option.bind_some]
          exact last_go n he hl r [] (k + 1) none _ hw' (by simp) (by simpa [Vars.get_set] using h0) (by simpa [Vars.get_set] using h1) (by simp [Vars.get_set])
        | cons x p =>
          rw [last_e n hc ha he (by omega) (by simp at hp; omega) h0 h1]; dsimp only [Option.bind_some]
          exact last_go n he hl r p (k + 1) (some x) _ hw' (by simp at hp; omega) (by simpa [Vars.get_set] using h0) (by simpa [Vars.get_set] using h1) (by simp [Vars.get_set, prD])
      | false =>
        rw [last_o n hc ha he hn (by omega) h0]; dsimp only [Option.bind_some]
        exact last_go n he hl r p (k + 1) pc _ hw' (by omega) (by simpa [Vars.get_set] using h0) (by simpa [Vars.get_set] using h1) (by simpa [Vars.get_set] using h2)
theorem its_n (m : Nat) (h : m ≤ 2000) : items (.rng 0 m 1) = some (ixs 0 m) := by
  have hs : Builtin.Range.rangeSize 0 (m : Int) 1 = m := by
    unfold Builtin.Range.rangeSize
    by_cases hm : m = 0
    · subst hm; rfl
    · simp; omega
  have hr : Builtin.Range.small 0 (m : Int) 1 = true := by
    unfold Builtin.Range.small
    rw [hs]
    have f : ∀ x : Nat, x ≤ 2001 → Builtin.Range.rangeFitsLong (x : Int) = true := fun x hx => by
      unfold Builtin.Range.rangeFitsLong
      simp; omega
    have f1 := f m (by omega)
    simp [f1]
    first | done | rfl | (exact ⟨f 0 (by omega), f 1 (by omega)⟩)
  simp only [items, rngItems, hr, and_self, if_true, hs]
  unfold ixs
  rw [List.range_eq_range', Int.toNat_natCast]
  simp
theorem lenS (st : Store) (w : List Nat) (h : w.length ≤ 4096) : fnP st .len [.str (S w)] = some (.int w.length) := by
  refine orP_l (show leP' (S w).length (D.int ((S w).length : Nat)) = _ from ?_)
  rw [S_len]
  exact leP_of (le_lid h)
theorem rngN (st : Store) (m : Nat) (h : m ≤ 4096) : fnP st .range1 [.int m] = some (.rng 0 m 1) := by
  exact leP_of (by simp [lid]; omega)
theorem prD_closed (o : Option Nat) : D.refsLt 0 (prD o) = true := by cases o <;> rfl
theorem last_ok (n : Nat) {w : List Nat} {e : Nat} (he : w.getLast? = some e) (hl : w.length ≤ 2000) (st : Store) : callF F1 (n + 40) 5 [.str (S w)] st = some (prD (lastGo e 0 w [] none), st) := by
  obtain ⟨σ', p', hg, h2⟩ := last_go (n + 5) he hl w [] 0 none [(0, .str (S w)), (1, .ref 0), (2, prD none)] rfl (by simp) rfl rfl rfl
  have l1 := fun st => lenS st w (by omega)
  have l2 := fun st => rngN st w.length (by omega)
  have l3 := its_n w.length hl
  have hg : forGo (fun σ st => run F1 (n + 35) σ st b5) 3 (ixs 0 w.length) [(0, .str (S w)), (1, .ref 0), (2, .tup [.str ⟨#[]⟩, .str ⟨#[]⟩])] [.acc []] = _ := hg
  have a1 : exec1 F1 (n + 38) [(0, .str (S w))] [] (.asg 1 .acc0) = some (.next, [(0, .str (S w)), (1, .ref 0)], [.acc []]) := by
    simp [exec1, ev, Vars.set]
  have a2 : exec1 F1 (n + 37) [(0, .str (S w)), (1, .ref 0)] [.acc []] (.asg 2 (.tup [(.lit (.str ⟨#[]⟩)), (.lit (.str ⟨#[]⟩))])) = some (.next, [(0, .str (S w)), (1, .ref 0), (2, .tup [.str ⟨#[]⟩, .str ⟨#[]⟩])], [.acc []]) := by
    simp [exec1, ev, evs, Vars.set]
  have a3 : exec1 F1 (n + 36) [(0, .str (S w)), (1, .ref 0), (2, .tup [.str ⟨#[]⟩, .str ⟨#[]⟩])] [.acc []] (.for1 3 (.fn .range1 [(.fn .len [(.var 0)])]) b5) = some (.next, σ', [pileS p']) := by
    rw [exec1.eq_def]; dsimp only
    have : ev F1 (n + 35) [(0, .str (S w)), (1, .ref 0), (2, .tup [.str ⟨#[]⟩, .str ⟨#[]⟩])] [.acc []] (.fn .range1 [(.fn .len [(.var 0)])]) = some (.rng 0 w.length 1, [.acc []]) := by
      simp [ev, evs, Vars.get, l1, l2]
    rw [this, Option.bind_some, l3, Option.bind_some]; exact hg
  have a4 : exec1 F1 (n + 35) σ' [pileS p'] (.ret (.var 2)) = some (.ret (prD (lastGo e 0 w [] none)), σ', [pileS p']) := by
    simp [exec1, ev, h2]
  simp only [callF, F1, pf5_body, show pf5.params = [0] from rfl, setAll, Option.bind_some, D.refsLts, D.refsLt, Bool.and_self, Vars.set, Nat.beq]
  rw [run, a1]; dsimp only [Option.bind_some]
  rw [run, a2]; dsimp only [Option.bind_some]
  rw [run, a3]; dsimp only [Option.bind_some]
  rw [run, a4]; dsimp only [Option.bind_some]
  rw [if_pos (prD_closed _)]
end Mine
end
section
open PySem PySem.W PySem.Calls PyProof.Rows
set_option Elab.async false
set_option maxRecDepth 100000
set_option maxHeartbeats 4000000
namespace Mine
noncomputable abbrev OL := Option (List Nat)
noncomputable def frc {α : Type} (l : List Nat) : (List Nat → α) → α := List.rec (motive := fun _ => (List Nat → α) → α) (fun k => k []) (fun x _ ih k => ih fun r => k (x :: r)) l
noncomputable def turnEnd (w : List Nat) (k x : Nat) (p : List Nat) : Option (List Nat) :=
  List.rec (motive := fun _ => OL) (frc (((w.take k).drop 1 ++ [97] ++ w.drop (k + 1)) ++ [x]) fun t =>
    Option.rec (motive := fun _ => OL) none (fun j => Bool.rec (motive := fun _ => OL) none (some t) (Nat.beq (Nat.succ j) k)) (lastR x t 0 [] none)) (fun _ _ _ => none) p
noncomputable def turnR (w : List Nat) (l : List Nat) : Nat → Nat → Nat → Nat → List Nat → List Nat → OL :=
  List.rec (motive := fun _ => Nat → Nat → Nat → Nat → List Nat → List Nat → OL) (fun _ _ _ _ _ _ => none)
    (fun x _ ih k a b c p q => Bool.rec (motive := fun _ => OL)
      (Bool.rec (motive := fun _ => OL)
        (Bool.rec (motive := fun _ => OL) none
          (List.rec (motive := fun _ => OL) none (fun y q _ => Bool.rec (motive := fun _ => OL)
            (Bool.rec (motive := fun _ => OL) (ih (Nat.succ k) a b (Nat.succ c) p q) none (Nat.beq c a))
            (Bool.rec (motive := fun _ => OL) none (turnEnd w k 99 q) (Nat.beq c a)) (Nat.beq y 0)) q) (Nat.beq x 99))
        (List.rec (motive := fun _ => OL) none (fun y p _ => Bool.rec (motive := fun _ => OL)
            (Bool.rec (motive := fun _ => OL) (ih (Nat.succ k) a (Nat.succ b) c p q) none (Nat.beq b a))
            (Bool.rec (motive := fun _ => OL) none (turnEnd w k 98 p) (Nat.beq b a)) (Nat.beq y 0)) p) (Nat.beq x 98))
      (Bool.rec (motive := fun _ => OL) none (ih (Nat.succ k) (Nat.succ a) b c (k :: p) (k :: q)) (Nat.ble a 3)) (Nat.beq x 97)) l
noncomputable def turnF (w : List Nat) : OL :=
  List.rec (motive := fun _ => OL) none (fun x r _ => Bool.rec (motive := fun _ => OL) none (turnR w r 1 1 1 1 [0] [0]) (Nat.beq x 97)) w
noncomputable def turnN (n : Nat) : List Nat → OL := Nat.rec (motive := fun _ => List Nat → OL) (fun w => some w) (fun _ ih w => Option.rec (motive := fun _ => OL) none (fun w => ih w) (turnF w)) n
noncomputable def swp (x : Nat) : Nat := Bool.rec (motive := fun _ => Nat) (Bool.rec (motive := fun _ => Nat) 98 99 (Nat.beq x 98)) 97 (Nat.beq x 97)
noncomputable def eqSw (a : List Nat) : List Nat → Bool := List.rec (motive := fun _ => List Nat → Bool) (fun b => List.rec (motive := fun _ => Bool) true (fun _ _ _ => false) b)
  (fun x _ ih b => List.rec (motive := fun _ => Bool) false (fun y r _ => Bool.rec (motive := fun _ => Bool) false (ih r) (Nat.beq x (swp y))) b) a
noncomputable def wordOk (m : Nat) (w : List Nat) : Bool := Option.rec (motive := fun _ => Bool) false (fun v => eqSw v w) (turnN m w)
noncomputable def cnt (x : Nat) (l : List Nat) : Nat := List.rec (motive := fun _ => Nat) 0 (fun y _ ih => Bool.rec (motive := fun _ => Nat) ih (Nat.succ ih) (Nat.beq y x)) l
noncomputable def okA (size : Nat) (w : List Nat) : Bool := Nat.blt (cnt 97 w) size
noncomputable def okB (c : Nat) (w : List Nat) : Bool := Nat.blt (cnt c w) (cnt 97 w)
noncomputable def allW (size : Nat) (P : List Nat → Bool) (n : Nat) : List Nat → Bool := Nat.rec (motive := fun _ => List Nat → Bool) (fun w => P w)
  (fun _ ih w =>
    Bool.rec (motive := fun _ => Bool) false
     (Bool.rec (motive := fun _ => Bool) false
      (Bool.rec (motive := fun _ => Bool) false
       (Bool.rec (motive := fun _ => Bool) (Bool.rec (motive := fun _ => Bool) (okB 99 w) true (okB 98 w)) true (okA size w))
       (Bool.rec (motive := fun _ => Bool) true (frc (w ++ [99]) ih) (okB 99 w)))
      (Bool.rec (motive := fun _ => Bool) true (frc (w ++ [98]) ih) (okB 98 w)))
     (Bool.rec (motive := fun _ => Bool) true (frc (w ++ [97]) ih) (okA size w))) n
theorem w3 : allW 3 (wordOk 9) 8 [97] = true := by kernel_rfl
theorem w4 : allW 4 (wordOk 12) 11 [97] = true := by kernel_rfl

theorem frc_eq {α : Type} (l : List Nat) (k : List Nat → α) : frc l k = k l := by
  induction l generalizing k with
  | nil => rfl
  | cons x r ih => exact ih _
/-- the new word -/
noncomputable abbrev newW (w : List Nat) (k x : Nat) : List Nat := ((w.take k).drop 1 ++ [97] ++ w.drop (k + 1)) ++ [x]
theorem turnEnd_some {w p t : List Nat} {k x : Nat} (h : turnEnd w k x p = some t) : p = [] ∧ t = newW w k x ∧ ∃ j, lastGo x 0 t [] none = some j ∧ j + 1 = k := by
  unfold turnEnd at h
  cases p with
  | cons => cases h
  | nil =>
    dsimp only at h
    rw [frc_eq] at h
    refine ⟨rfl, ?_⟩
    cases hj : lastR x (newW w k x) 0 [] none with
    | none => rw [hj] at h; cases h
    | some j =>
      rw [hj] at h
      dsimp only at h
      cases hb : Nat.beq (Nat.succ j) k with
      | false => rw [hb] at h; cases h
      | true =>
        rw [hb] at h; cases h
        exact ⟨rfl, j, hj, Nat.eq_of_beq_eq_true hb⟩
theorem turnR_cons (w r p q : List Nat) (x k a b c : Nat) : turnR w (x :: r) k a b c p q = match Nat.beq x 97 with
    | true => (match Nat.ble a 3 with | true => turnR w r (k + 1) (a + 1) b c (k :: p) (k :: q) | false => none)
    | false => match Nat.beq x 98 with
      | true => (match p with
        | [] => none
        | y :: p => match Nat.beq y 0, Nat.beq b a with
          | true, true => turnEnd w k 98 p
          | false, false => turnR w r (k + 1) a (b + 1) c p q
          | _, _ => none)
      | false => match Nat.beq x 99 with
        | true => (match q with
          | [] => none
          | y :: q => match Nat.beq y 0, Nat.beq c a with
            | true, true => turnEnd w k 99 q
            | false, false => turnR w r (k + 1) a b (c + 1) p q
            | _, _ => none)
        | false => none := by
  unfold turnR
  dsimp only
  cases Nat.beq x 97
  · cases Nat.beq x 98
    · cases Nat.beq x 99
      · rfl
      · cases q with
        | nil => rfl
        | cons y q => cases h1 : Nat.beq y 0 <;> cases h2 : Nat.beq c a <;> simp only [h1, h2]
    · cases p with
      | nil => rfl
      | cons y p => cases h1 : Nat.beq y 0 <;> cases h2 : Nat.beq b a <;> simp only [h1, h2]
  · cases Nat.ble a 3 <;> rfl
theorem swp_is (x : Nat) : swp x = if x = 97 then 97 else if x = 98 then 99 else 98 := by
  unfold swp
  by_cases h : x = 97
  · subst h; rfl
  · rw [if_neg h, show Nat.beq x 97 = false from Bool.eq_false_iff.mpr fun e => h (Nat.eq_of_beq_eq_true e)]
    by_cases h2 : x = 98
    · subst h2; rfl
    · rw [if_neg h2, show Nat.beq x 98 = false from Bool.eq_false_iff.mpr fun e => h2 (Nat.eq_of_beq_eq_true e)]
theorem eqSw_ok : ∀ (a b : List Nat), eqSw a b = true → a = b.map swp
  | [], [], _ => rfl
  | [], _ :: _, h => by cases h
  | _ :: _, [], h => by cases h
  | x :: a, y :: b, h => by
    unfold eqSw at h
    dsimp only at h
    cases hb : Nat.beq x (swp y) with
    | false => rw [hb] at h; cases h
    | true =>
      rw [hb] at h
      rw [Nat.eq_of_beq_eq_true hb, List.map_cons]
      exact congrArg _ (eqSw_ok a b h)
/-- the letters that may come -/
noncomputable def mayF (size : Nat) (w : List Nat) : List Nat := (if okA size w = true then [97] else []) ++ ((if okB 98 w = true then [98] else []) ++ (if okB 99 w = true then [99] else []))
theorem allW_succ {size n : Nat} {P : List Nat → Bool} {w : List Nat} (h : allW size P (n + 1) w = true) : mayF size w ≠ [] ∧ ∀ c ∈ mayF size w, allW size P n (w ++ [c]) = true := by
  have h' : (Bool.rec (motive := fun _ => Bool) false
     (Bool.rec (motive := fun _ => Bool) false
      (Bool.rec (motive := fun _ => Bool) false
       (Bool.rec (motive := fun _ => Bool) (Bool.rec (motive := fun _ => Bool) (okB 99 w) true (okB 98 w)) true (okA size w))
       (Bool.rec (motive := fun _ => Bool) true (frc (w ++ [99]) (allW size P n)) (okB 99 w)))
      (Bool.rec (motive := fun _ => Bool) true (frc (w ++ [98]) (allW size P n)) (okB 98 w)))
     (Bool.rec (motive := fun _ => Bool) true (frc (w ++ [97]) (allW size P n)) (okA size w)) : Bool) = true := h
  clear h
  rw [frc_eq, frc_eq, frc_eq] at h'
  unfold mayF
  cases ha : okA size w <;> cases hb : okB 98 w <;> cases hc : okB 99 w <;> cases h1 : allW size P n (w ++ [97]) <;> cases h2 : allW size P n (w ++ [98]) <;> cases h3 : allW size P n (w ++ [99]) <;> simp [ha, hb, hc, h1, h2, h3] at h' ⊢
end Mine
end
section
open PySem PySem.W PySem.Calls PyProof.Rows
set_option Elab.async false
set_option maxRecDepth 100000
set_option maxHeartbeats 4000000
set_option linter.unusedSimpArgs false
namespace Mine
noncomputable abbrev u1 : PS := (.asg 6 (.me .index (.lit (.str ⟨#[97, 98, 99]⟩)) [(.idx (.var 0) (.var 5))]))
noncomputable abbrev u2 : PS := (.ifs (.cmp1 .Eq (.var 6) (.lit (.int 0))) [(.ex (.meth 20 (.idx (.var 3) (.lit (.int 0))) [(.bin .Mult (.lit (.str ⟨#[32]⟩)) (.var 5)), (.lit (.str ⟨#[97]⟩))])), (.ex (.meth 20 (.idx (.var 3) (.lit (.int 1))) [(.bin .Mult (.lit (.str ⟨#[32]⟩)) (.var 5)), (.lit (.str ⟨#[97]⟩))])), (.asg 7 (.lit (.bool false)))] [(.asg 7 (.cmp1 .Eq (.accPop (.idx (.var 3) (.bin .Sub (.var 6) (.lit (.int 1))))) (.tup [(.lit (.str ⟨#[]⟩)), (.lit (.str ⟨#[97]⟩))])))])
noncomputable abbrev u3 : PS := (.asg 8 (.lit (.int 0)))
noncomputable abbrev u4 : PS := (.ifs (.cmp1 .Gt (.var 5) (.lit (.int 0))) [(.asg 4 (.call 3 [(.var 4), (.var 6), (.bin .Add (.var 2) (.var 5))])), (.ifs (.cmp1 .Eq (.var 4) (.lst [])) [(.ret (.lit (.str ⟨#[]⟩)))] []), (.asg 8 (.call 4 [(.var 4), (.var 1)]))] [])
noncomputable abbrev u5 : PS := (.ifs (.bor [(.cmp1 .Lt (.var 8) (.lit (.int 0))), (.cmp1 .NotEq (.cmp1 .Gt (.var 8) (.bin .Sub (.fn .maxL [(.var 4)]) (.fn .minL [(.var 4)]))) (.var 7))]) [(.ret (.lit (.str ⟨#[]⟩)))] [])
noncomputable abbrev u6 : PS := (.ifs (.var 7) [(.asg 9 (.bin .Add (.bin .Add (.bin .Add (.slc (.var 0) (some (.lit (.int 1))) (some (.var 5))) (.lit (.str ⟨#[97]⟩))) (.slc (.var 0) (some (.bin .Add (.var 5) (.lit (.int 1)))) .none)) (.idx (.var 0) (.var 5)))), (.ifs (.bor [(.cmp1 .NotEq (.accLen (.idx (.var 3) (.bin .Sub (.var 6) (.lit (.int 1))))) (.lit (.int 0))), (.cmp1 .NotEq (.accPop (.idx (.var 3) (.bin .Sub (.var 6) (.lit (.int 1))))) (.tup [(.lit (.str ⟨#[]⟩)), (.lit (.str ⟨#[]⟩))]))]) [(.ret (.lit (.str ⟨#[]⟩)))] []), (.ret (.ite (.cmp1 .Eq (.call 5 [(.var 9)]) (.tup [(.bin .Mult (.lit (.str ⟨#[32]⟩)) (.bin .Sub (.var 5) (.lit (.int 1)))), (.lit (.str ⟨#[97]⟩))])) (.var 9) (.lit (.str ⟨#[]⟩))))] [])
noncomputable abbrev b6 : List PS := [u1, u2, u3, u4, u5, u6]
theorem pf6_body : pf6.body = [(.asg 3 (.lst [.acc0, .acc0])), (.asg 4 (.lst [(.lit (.int 1)), (.lit (.int 1)), (.lit (.int 1))])), (.for1 5 (.fn .range1 [(.fn .len [(.var 0)])]) b6), (.ret (.lit (.str ⟨#[]⟩)))] := rfl
noncomputable def kdOf (x : Nat) : Nat := x - 97
theorem index_ok (st : Store) (x : Nat) (h : x = 97 ∨ x = 98 ∨ x = 99) : meP st .index (.str ⟨#[97, 98, 99]⟩) [.str ⟨#[x]⟩] = some (.int (kdOf x : Nat)) := by
  rcases h with rfl | rfl | rfl
  · show (if Txt.contains ⟨#[97, 98, 99]⟩ ⟨#[97]⟩ = true then some (D.int (Txt.find ⟨#[97, 98, 99]⟩ ⟨#[97]⟩)) else none) = _
    rw [show Txt.contains ⟨#[97, 98, 99]⟩ ⟨#[97]⟩ = true by decide +kernel, show Txt.find ⟨#[97, 98, 99]⟩ ⟨#[97]⟩ = 0 by decide +kernel]; rfl
  · show (if Txt.contains ⟨#[97, 98, 99]⟩ ⟨#[98]⟩ = true then some (D.int (Txt.find ⟨#[97, 98, 99]⟩ ⟨#[98]⟩)) else none) = _
    rw [show Txt.contains ⟨#[97, 98, 99]⟩ ⟨#[98]⟩ = true by decide +kernel, show Txt.find ⟨#[97, 98, 99]⟩ ⟨#[98]⟩ = 1 by decide +kernel]; rfl
  · show (if Txt.contains ⟨#[97, 98, 99]⟩ ⟨#[99]⟩ = true then some (D.int (Txt.find ⟨#[97, 98, 99]⟩ ⟨#[99]⟩)) else none) = _
    rw [show Txt.contains ⟨#[97, 98, 99]⟩ ⟨#[99]⟩ = true by decide +kernel, show Txt.find ⟨#[97, 98, 99]⟩ ⟨#[99]⟩ = 2 by decide +kernel]; rfl
theorem pr_eq0 (st : Store) (y : Nat) (h : y < 40) : cmpP st .Eq (pr y) (.tup [.str ⟨#[]⟩, .str ⟨#[97]⟩]) = some (Nat.beq y 0) := by
  have : ∀ y < 40, seqEq (pr y) (.tup [.str ⟨#[]⟩, .str ⟨#[97]⟩]) = some (Nat.beq y 0) := by decide +kernel
  exact this y h
theorem pr_eq (st : Store) (y : Nat) (h : y < 40) : cmpP st .Eq (pr y) (.tup [.str (bl y), .str ⟨#[97]⟩]) = some true := by
  have : ∀ y < 40, seqEq (pr y) (.tup [.str (bl y), .str ⟨#[97]⟩]) = some true := by decide +kernel
  exact this y h
theorem ee_ne (st : Store) : cmpP st .NotEq (.tup [.str ⟨#[]⟩, .str ⟨#[]⟩]) (.tup [.str ⟨#[]⟩, .str ⟨#[]⟩]) = some false := by
  have : (seqEq (.tup [.str ⟨#[]⟩, .str ⟨#[]⟩]) (.tup [.str ⟨#[]⟩, .str ⟨#[]⟩])).map (!·) = some false := by decide +kernel
  exact this
theorem lst_ne (st : Store) (a b c : Nat) : cmpP st .Eq (dD a b c) (.lst []) = some false := by
  have : seqEq (dD a b c) (.lst []) = some false := rfl
  exact this
theorem cGt (st : Store) (a b : Int) : cmpP st .Gt (.int a) (.int b) = some (decide (a > b)) := rfl
theorem cLt (st : Store) (a b : Int) : cmpP st .Lt (.int a) (.int b) = some (decide (a < b)) := rfl
theorem cNe (st : Store) (a b : Int) : cmpP st .NotEq (.int a) (.int b) = some (a != b) := rfl
theorem cNeB (st : Store) (a b : Bool) : cmpP st .NotEq (.bool a) (.bool b) = some (a != b) := rfl
theorem subI (a b : Int) : binP .Sub (.int a) (.int b) = some (.int (a - b)) := rfl
theorem pix0 (st : Store) : idxP st (.lst [.ref 0, .ref 1]) (.int 0) = some (.ref 0) := rfl
theorem pix1 (st : Store) : idxP st (.lst [.ref 0, .ref 1]) (.int 1) = some (.ref 1) := rfl
theorem sliceRange_nat (a b : Nat) (h : a ≤ b) : sliceRange (a : Int) (b : Int) 1 = List.range' a (b - a) := by
  unfold sliceRange
  simp only [show (1 : Int) > 0 by decide, if_true]
  have : (if (a : Int) < (b : Int) then ((b : Int) - a + 1 - 1) / 1 else 0).toNat = b - a := by
    split
    · rw [Int.ediv_one]; omega
    · simp; omega
  rw [this, List.range'_eq_map_range]
  refine List.map_congr_left fun x _ => ?_
  omega
theorem pick_drop (w : List Nat) : ∀ (m a : Nat), a + m ≤ w.length → (List.range' a m).filterMap (w.toArray[·]?) = (w.drop a).take m
  | 0, a, _ => by simp
  | m + 1, a, h => by
    rw [List.range'_succ, List.filterMap_cons]
    have ha : a < w.length := by omega
    have : w.toArray[a]? = some w[a] := by simp [ha]
    rw [this]
    dsimp only
    rw [pick_drop w m (a + 1) (by omega)]
    rw [List.drop_eq_getElem_cons ha]
    rfl
theorem clip_nat (i n : Nat) (h : i ≤ n) : max 0 (min (if (i : Int) < 0 then (i : Int) + (n : Int) else (i : Int)) (n : Int)) = (i : Int) := by
  rw [if_neg (by omega)]; omega
theorem slc_to {w : List Nat} {k : Nat} (h1 : 1 ≤ k) (h2 : k < w.length) (hl : w.length ≤ 4096) : slcP (.str (S w)) (some (.int 1)) (some (.int k)) = some (.str (S ((w.take k).drop 1))) := by
  refine orP_l ?_
  show (if (S w).length ≤ lid then some (D.str (Txt.slice (S w) (some 1) (some (k : Int)))) else none) = _
  rw [if_pos (by rw [S_len]; exact le_lid hl)]
  unfold Txt.slice
  have e : Builtin.Str.strSliceIndices (some 1) (some (k : Int)) 1 (S w).length = List.range' 1 (k - 1) := by
    unfold Builtin.Str.strSliceIndices
    rw [S_len]
    simp only [show (1 : Int) > 0 by decide, if_true]
    have := clip_nat 1 w.length (by omega)
    have h3 := clip_nat k w.length (by omega)
    rw [h3]
    have := sliceRange_nat 1 k h1
    rw [show max 0 (min (if (1 : Int) < 0 then (1 : Int) + (w.length : Int) else 1) (w.length : Int)) = ((1 : Nat) : Int) from clip_nat 1 w.length (by omega)]
    exact this
  rw [e, S_len, if_neg (by simp; omega), pick_drop w _ _ (by omega), List.drop_take]
theorem slc_from {w : List Nat} {k : Nat} (h2 : k < w.length) (hl : w.length ≤ 4096) : slcP (.str (S w)) (some (.int ((k : Int) + 1))) none = some (.str (S (w.drop (k + 1)))) := by
  refine orP_l ?_
  show (if (S w).length ≤ lid then some (D.str (Txt.slice (S w) (some ((k : Int) + 1)) none)) else none) = _
  rw [if_pos (by rw [S_len]; exact le_lid hl)]
  unfold Txt.slice
  have e : Builtin.Str.strSliceIndices (some ((k : Int) + 1)) none 1 (S w).length = List.range' (k + 1) (w.length - (k + 1)) := by
    unfold Builtin.Str.strSliceIndices
    rw [S_len]
    simp only [show (1 : Int) > 0 by decide, if_true]
    rw [show max 0 (min (if (k : Int) + 1 < 0 then (k : Int) + 1 + (w.length : Int) else (k : Int) + 1) (w.length : Int)) = ((k + 1 : Nat) : Int) from clip_nat (k + 1) w.length (by omega)]
    exact sliceRange_nat (k + 1) w.length (by omega)
  rw [e, S_len, if_neg (by simp; omega), pick_drop w _ _ (by omega), List.take_of_length_le (by simp)]
theorem S_app (a b : List Nat) : (S a) ++ (S b) = S (a ++ b) := by
  show Str.append _ _ = _
  unfold Str.append
  simp
theorem addSS {a b : List Nat} (h : a.length + b.length ≤ 4096) : binP .Add (.str (S a)) (.str (S b)) = some (.str (S (a ++ b))) := by
  rw [addS (by rw [S_len, S_len]; exact le_lid h), S_app]
theorem pile_len (p : List Nat) : (p.reverse.map pr).length = p.length := by simp

section
variable {n k c x a b a' b' c' corner first : Nat} {w p q : List Nat} {σ : Vars} {st : Store}
theorem u1_ok (hc : w[k]? = some x) (hx : x = 97 ∨ x = 98 ∨ x = 99) (hl : w.length ≤ 4096) (h0 : σ.get 0 = some (.str (S w))) (h5 : σ.get 5 = some (.int k)) :
    exec1 F1 (n + 59) σ st u1 = some (.next, σ.set 6 (.int (kdOf x : Nat)), st) := by
  have i1 := fun st => idxS st hc hl
  have i2 := fun st => index_ok st x hx
  simp [exec1, ev, evs, h0, h5, i1, i2]
theorem u2_a (hk : k ≤ 4096) (hp : p.length ≤ 4096) (hq : q.length ≤ 4096) (h3 : σ.get 3 = some (.lst [.ref 0, .ref 1])) (h5 : σ.get 5 = some (.int k)) (h6 : σ.get 6 = some (.int (kdOf 97 : Nat))) :
    exec1 F1 (n + 58) σ [pileS p, pileS q] u2 = some (.next, σ.set 7 (.bool false), [pileS (k :: p), pileS (k :: q)]) := by
  have m1 := mul_bl k (le_lid hk)
  have g1 : callF F1 (n + 54) 20 [.ref 0, .str (bl k), .str ⟨#[97]⟩] [pileS p, pileS q] = _ := push20_ok (n + 39) (st := [pileS p, pileS q]) (i := 0) (bl k) ⟨#[97]⟩ rfl (by rw [pile_len]; exact le_lid hp)
  have g2 : callF F1 (n + 53) 20 [.ref 1, .str (bl k), .str ⟨#[97]⟩] [pileS (k :: p), pileS q] = _ := push20_ok (n + 38) (st := [pileS (k :: p), pileS q]) (i := 1) (bl k) ⟨#[97]⟩ rfl (by rw [pile_len]; exact le_lid hq)
  simp only [List.set_cons_zero, List.set_cons_succ] at g1 g2
  rw [← pile_get] at g1 g2
  simp [-List.map_reverse, -List.reverse_cons, exec1, run, ev, evs, evT, h3, h5, h6, kdOf, cEq, pix0, pix1, m1, g1, g2]
theorem u2_b {y : Nat} (hy : y < 40) (hp : p.length + 1 ≤ 4096) (h3 : σ.get 3 = some (.lst [.ref 0, .ref 1])) (h6 : σ.get 6 = some (.int (kdOf 98 : Nat))) :
    exec1 F1 (n + 58) σ [pileS (y :: p), pileS q] u2 = some (.next, σ.set 7 (.bool (Nat.beq y 0)), [pileS p, pileS q]) := by
  have e := fun st => pr_eq0 st y hy
  simp [exec1, run, ev, evs, evT, h3, h6, kdOf, cEq, subI, pix0, e, show p.length + 1 ≤ lid from le_lid hp]
theorem u2_c {y : Nat} (hy : y < 40) (hq : q.length + 1 ≤ 4096) (h3 : σ.get 3 = some (.lst [.ref 0, .ref 1])) (h6 : σ.get 6 = some (.int (kdOf 99 : Nat))) :
    exec1 F1 (n + 58) σ [pileS p, pileS (y :: q)] u2 = some (.next, σ.set 7 (.bool (Nat.beq y 0)), [pileS p, pileS q]) := by
  have e := fun st => pr_eq0 st y hy
  simp [exec1, run, ev, evs, evT, h3, h6, kdOf, cEq, subI, pix1, e, show q.length + 1 ≤ lid from le_lid hq]
theorem u3_ok : exec1 F1 (n + 57) σ st u3 = some (.next, σ.set 8 (.int 0), st) := by
  simp [exec1, ev]
theorem u4_0 (h5 : σ.get 5 = some (.int ((0 : Nat) : Int))) : exec1 F1 (n + 56) σ st u4 = some (.next, σ, st) := by
  simp [exec1, run, ev, evT, h5, cGt]
theorem u4_ok {kd : D} {v : Int} (hk : 1 ≤ k) (h1 : σ.get 1 = some (.int corner)) (h2 : σ.get 2 = some (.int first)) (h4 : σ.get 4 = some (dD a b c)) (h5 : σ.get 5 = some (.int k)) (h6 : σ.get 6 = some kd)
    (hs : callF F1 (n + 52) 3 [dD a b c, kd, .int ((first : Int) + k)] st = some (dD a' b' c', st)) (ha : callF F1 (n + 50) 4 [dD a' b' c', .int corner] st = some (.int v, st)) :
    exec1 F1 (n + 56) σ st u4 = some (.next, (σ.set 4 (dD a' b' c')).set 8 (.int v), st) := by
  have e := fun st => lst_ne st a' b' c'
  simp [exec1, run, ev, evs, evT, h1, h2, h4, h5, h6, cGt, addI, Vars.get_set, hs, ha, e, show 0 < k from hk]
theorem u5_ok {v x y : Int} {e : Bool} (h8 : σ.get 8 = some (.int v)) (h4 : σ.get 4 = some (dD a b c)) (h7 : σ.get 7 = some (.bool e)) (hv : 0 ≤ v) (hx : fnP st .maxL [dD a b c] = some (.int x)) (hy : fnP st .minL [dD a b c] = some (.int y)) (he : decide (v > x - y) = e) :
    exec1 F1 (n + 55) σ st u5 = some (.next, σ, st) := by
  have n1 : decide (v < 0) = false := by simp; omega
  simp only [exec1, run, ev, evs, evT, evOr, h4, h7, h8, cLt, cGt, cNeB, subI, Option.map_some, Option.bind_some, hx, hy, n1, he, bne_self_eq_false]
theorem u6_next (h7 : σ.get 7 = some (.bool false)) : exec1 F1 (n + 54) σ st u6 = some (.next, σ, st) := by
  simp [exec1, run, evT, h7]
end
end Mine
end
section
open PySem PySem.W PySem.Calls PyProof.Rows
set_option Elab.async false
set_option maxRecDepth 100000
set_option maxHeartbeats 4000000
set_option linter.unusedSimpArgs false
namespace Mine
section
variable {n k x a b c : Nat} {w q : List Nat} {σ : Vars} {st : Store}
theorem newW_len (hk : k < w.length) (h1 : 1 ≤ k) : (newW w k x).length = w.length := by
  simp [newW]; omega
theorem newW_last : (newW w k x).getLast? = some x := List.getLast?_concat ..
noncomputable abbrev v1' : PS := (.asg 9 (.bin .Add (.bin .Add (.bin .Add (.slc (.var 0) (some (.lit (.int 1))) (some (.var 5))) (.lit (.str ⟨#[97]⟩))) (.slc (.var 0) (some (.bin .Add (.var 5) (.lit (.int 1)))) .none)) (.idx (.var 0) (.var 5))))
theorem v1_ok (hc : w[k]? = some x) (h1 : 1 ≤ k) (hl : w.length ≤ 1000) (h0 : σ.get 0 = some (.str (S w))) (h5 : σ.get 5 = some (.int k)) :
    exec1 F1 (n + 52) σ st v1' = some (.next, σ.set 9 (.str (S (newW w k x))), st) := by
  have hk : k < w.length := (List.getElem?_eq_some_iff.mp hc).1
  have i1 := fun st => idxS st hc (by omega : w.length ≤ 4096)
  have c1 := slc_to h1 hk (by omega : w.length ≤ 4096)
  have c2 := slc_from hk (by omega : w.length ≤ 4096)
  have a1 := addSS (a := (w.take k).drop 1) (b := [97]) (by simp; omega)
  have a2 := addSS (a := (w.take k).drop 1 ++ [97]) (b := w.drop (k + 1)) (by simp; omega)
  have a3 := addSS (a := (w.take k).drop 1 ++ [97] ++ w.drop (k + 1)) (b := [x]) (by simp; omega)
  simp only [exec1, ev, evO, h0, h5, Option.map_some, Option.bind_some, i1, c1, c2, a1, addI, a2, a3]
noncomputable abbrev v2' : PS := (.ifs (.bor [(.cmp1 .NotEq (.accLen (.idx (.var 3) (.bin .Sub (.var 6) (.lit (.int 1))))) (.lit (.int 0))), (.cmp1 .NotEq (.accPop (.idx (.var 3) (.bin .Sub (.var 6) (.lit (.int 1))))) (.tup [(.lit (.str ⟨#[]⟩)), (.lit (.str ⟨#[]⟩))]))]) [(.ret (.lit (.str ⟨#[]⟩)))] [])
theorem v2_b (h3 : σ.get 3 = some (.lst [.ref 0, .ref 1])) (h6 : σ.get 6 = some (.int (kdOf 98 : Nat))) : exec1 F1 (n + 51) σ [pileS [], pileS q] v2' = some (.next, σ, [pileS [], pileS q]) := by
  simp [exec1, run, ev, evs, evT, evOr, h3, h6, kdOf, subI, pix0, cNe, ee_ne]
theorem v2_c (h3 : σ.get 3 = some (.lst [.ref 0, .ref 1])) (h6 : σ.get 6 = some (.int (kdOf 99 : Nat))) : exec1 F1 (n + 51) σ [pileS q, pileS []] v2' = some (.next, σ, [pileS q, pileS []]) := by
  simp [exec1, run, ev, evs, evT, evOr, h3, h6, kdOf, subI, pix1, cNe, ee_ne]
noncomputable abbrev v3' : PS := (.ret (.ite (.cmp1 .Eq (.call 5 [(.var 9)]) (.tup [(.bin .Mult (.lit (.str ⟨#[32]⟩)) (.bin .Sub (.var 5) (.lit (.int 1)))), (.lit (.str ⟨#[97]⟩))])) (.var 9) (.lit (.str ⟨#[]⟩))))
theorem v3_ok {t : List Nat} {j : Nat} (hj : j + 1 = k) (hk : k ≤ 30) (h9 : σ.get 9 = some (.str (S t))) (h5 : σ.get 5 = some (.int k)) (hc : callF F1 (n + 46) 5 [.str (S t)] st = some (pr j, st)) :
    exec1 F1 (n + 50) σ st v3' = some (.ret (.str (S t)), σ, st) := by
  have e1 : binP .Sub (.int k) (.int 1) = some (.int (j : Nat)) := by rw [subI, ← hj]; congr 2; omega
  have m1 := mul_bl j (le_lid (by omega))
  have e2 := fun st => pr_eq st j (by omega)
  simp [exec1, ev, evs, evT, h9, h5, hc, e1, m1, e2]
theorem u6_is : u6 = .ifs (.var 7) [v1', v2', v3'] [] := rfl
theorem u6_end {t : List Nat} (hc : w[k]? = some x) (h1 : 1 ≤ k) (hk : k ≤ 30) (hl : w.length ≤ 1000) (h0 : σ.get 0 = some (.str (S w))) (h5 : σ.get 5 = some (.int k)) (h7 : σ.get 7 = some (.bool true))
    (ht : t = newW w k x) (hj : ∃ j, lastGo x 0 t [] none = some j ∧ j + 1 = k)
    (h2 : ∀ σ' : Vars, σ'.get 3 = σ.get 3 → σ'.get 6 = σ.get 6 → exec1 F1 (n + 51) σ' st v2' = some (.next, σ', st)) :
    ∃ σ', exec1 F1 (n + 54) σ st u6 = some (.ret (.str (S t)), σ', st) := by
  have e1 := v1_ok (n := n) (st := st) hc h1 hl h0 h5
  have hkl : k < w.length := (List.getElem?_eq_some_iff.mp hc).1
  have e2 := h2 (σ.set 9 (.str (S (newW w k x)))) (by simp [Vars.get_set]) (by simp [Vars.get_set])
  obtain ⟨j, hj1, hj2⟩ := hj
  subst ht
  have lo : callF F1 (n + 46) 5 _ st = _ := last_ok (n + 6) (w := newW w k x) newW_last (by rw [newW_len hkl h1]; omega) st
  rw [hj1] at lo
  have e3 := v3_ok (n := n) (st := st) (σ := σ.set 9 (.str (S (newW w k x)))) hj2 hk (by simp [Vars.get_set]) (by simp [Vars.get_set, h5]) lo
  refine ⟨σ.set 9 (.str (S (newW w k x))), ?_⟩
  rw [u6_is, exec1.eq_def]; dsimp only
  have t7 : evT F1 (n + 53) σ st (.var 7) = some (true, st) := by simp [evT, h7]
  rw [t7]; dsimp only [Option.bind_some]
  rw [run, e1]; dsimp only [Option.bind_some]
  rw [run, e2]; dsimp only [Option.bind_some]
  rw [run, e3]; dsimp only [Option.bind_some]
end
end Mine
end
section
open PySem PySem.W PySem.Calls PyProof.Rows
set_option Elab.async false
set_option maxRecDepth 100000
set_option maxHeartbeats 4000000
set_option linter.unusedSimpArgs false
namespace Mine
theorem callF_st {F : Nat → Option PF} {n f : Nat} {ds : List D} {d : D} (h : callF F (n + 1) f ds [] = some (d, [])) (hd : D.refsLts 0 ds = true) (st : Store) : callF F (n + 1) f ds st = some (d, st) := by
  rw [callF.eq_def] at h ⊢
  dsimp only at h ⊢
  cases hF : F f with
  | none => rw [hF] at h; cases h
  | some pf =>
    rw [hF] at h
    dsimp only at h ⊢
    obtain ⟨σ, hσ, h⟩ := Option.bind_eq_some_iff.mp h
    rw [hσ, Option.bind_some, hd]
    rw [hd] at h
    dsimp only at h ⊢
    obtain ⟨⟨fl, σ', s1⟩, hr, h⟩ := Option.bind_eq_some_iff.mp h
    rw [hr, Option.bind_some]
    cases fl with
    | next => cases h; rfl
    | ret e =>
      dsimp only at h ⊢
      split at h
      · rename_i h1; cases h; rw [if_pos h1]
      · cases h
theorem sAll_of {a b c kd r : Nat} (h : preD a b c kd = true) (hk : kd < 3) (hr : r < 3) : sAll a b c kd r = true := by
  have h0 := h
  unfold preD at h
  simp only [Bool.and_eq_true, Nat.ble_eq] at h
  obtain ⟨⟨⟨⟨⟨⟨h1, h2⟩, h3⟩, h4⟩, h5⟩, h6⟩, _⟩ := h
  refine List.all_eq_true.mp (List.all_eq_true.mp tblS (a, b, c, kd) ?_) r (List.mem_range.mpr hr)
  simp only [preL, preLa, List.mem_flatMap, List.mem_range]
  exact ⟨a, by omega, b, by omega, c, by omega, kd, hk, by rw [if_pos h0]; exact List.mem_singleton.mpr rfl⟩
theorem apAll_of (n : Nat) {a r : Nat} (h1 : 1 ≤ a) (h2 : a ≤ 4) (hr : r < 6) : apAll n a r = true := by
  match a, h1, h2, r, hr with
  | 1, _, _, 0, _ => exact tA10 n
  | 1, _, _, 1, _ => exact tA11 n
  | 1, _, _, 2, _ => exact tA12 n
  | 1, _, _, 3, _ => exact tA13 n
  | 1, _, _, 4, _ => exact tA14 n
  | 1, _, _, 5, _ => exact tA15 n
  | 2, _, _, 0, _ => exact tA20 n
  | 2, _, _, 1, _ => exact tA21 n
  | 2, _, _, 2, _ => exact tA22 n
  | 2, _, _, 3, _ => exact tA23 n
  | 2, _, _, 4, _ => exact tA24 n
  | 2, _, _, 5, _ => exact tA25 n
  | 3, _, _, 0, _ => exact tA30 n
  | 3, _, _, 1, _ => exact tA31 n
  | 3, _, _, 2, _ => exact tA32 n
  | 3, _, _, 3, _ => exact tA33 n
  | 3, _, _, 4, _ => exact tA34 n
  | 3, _, _, 5, _ => exact tA35 n
  | 4, _, _, 0, _ => exact tA40 n
  | 4, _, _, 1, _ => exact tA41 n
  | 4, _, _, 2, _ => exact tA42 n
  | 4, _, _, 3, _ => exact tA43 n
  | 4, _, _, 4, _ => exact tA44 n
  | 4, _, _, 5, _ => exact tA45 n
theorem ap_of (n : Nat) {a b c corner : Nat} (h : postD a b c = true) (hr : corner < 6) (st : Store) : ∃ v x y : Int, callF F1 (n + 40) 4 [dD a b c, .int corner] st = some (.int v, st) ∧ fnP st .maxL [dD a b c] = some (.int x) ∧ fnP st .minL [dD a b c] = some (.int y) ∧ 0 ≤ v ∧ decide (v > x - y) = over a b c := by
  have h0 := h
  unfold postD at h
  simp only [Bool.and_eq_true, Nat.ble_eq] at h
  obtain ⟨⟨⟨⟨⟨⟨⟨h1, h2⟩, h3⟩, h4⟩, h5⟩, h6⟩, _⟩, _⟩ := h
  have q : apChk n a b c corner = true := by
    refine List.all_eq_true.mp (apAll_of n h1 h2 hr) (a, b, c) ?_
    simp only [postL, List.mem_flatMap, List.mem_range]
    exact ⟨b, by omega, c, by omega, by rw [if_pos h0]; exact List.mem_singleton.mpr rfl⟩
  unfold apChk apRes at q
  split at q
  · rename_i v x y e1 e2 e3
    simp only [Bool.and_eq_true, decide_eq_true_eq, beq_iff_eq] at q
    exact ⟨v, x, y, callF_st e1 rfl st, e2, e3, q.1, q.2⟩
  · cases q
end Mine
end
section
open PySem PySem.W PySem.Calls PyProof.Rows
set_option Elab.async false
set_option maxRecDepth 100000
set_option maxHeartbeats 4000000
set_option linter.unusedSimpArgs false
namespace Mine
structure TI (σ : Vars) (w : List Nat) (corner first a b c : Nat) : Prop where
  h0 : σ.get 0 = some (.str (S w))
  h1 : σ.get 1 = some (.int corner)
  h2 : σ.get 2 = some (.int first)
  h3 : σ.get 3 = some (.lst [.ref 0, .ref 1])
  h4 : σ.get 4 = some (dD a b c)
section
variable {k x a b c a' b' c' corner first : Nat} {w p q : List Nat} {σ : Vars} {st st' : Store}
theorem step {n : Nat} {e : Bool} (I : TI σ w corner first a b c) (hc : w[k]? = some x) (hx : x = 97 ∨ x = 98 ∨ x = 99) (hk : 1 ≤ k) (hl : w.length ≤ 1000) (hcr : corner < 6)
    (hu2 : ∀ σ' : Vars, σ'.get 3 = some (.lst [.ref 0, .ref 1]) → σ'.get 5 = some (.int k) → σ'.get 6 = some (.int (kdOf x : Nat)) → exec1 F1 (n + 58) σ' st u2 = some (.next, σ'.set 7 (.bool e), st'))
    (hs : callF F1 (n + 52) 3 [dD a b c, .int (kdOf x : Nat), .int ((first : Int) + k)] st' = some (dD a' b' c', st')) (hp : postD a' b' c' = true) (ho : over a' b' c' = e) :
    ∃ σ', TI σ' w corner first a' b' c' ∧ σ'.get 5 = some (.int k) ∧ σ'.get 6 = some (.int (kdOf x : Nat)) ∧ σ'.get 7 = some (.bool e) ∧ run F1 (n + 60) (σ.set 5 (.int k)) st b6 = run F1 (n + 55) σ' st' [u6] := by
  obtain ⟨v, vx, vy, r1, r2, r3, r4, r5⟩ := ap_of (n + 10) hp hcr st'
  have e1 := u1_ok (n := n) (σ := σ.set 5 (.int k)) (st := st) hc hx (by omega) (by simp [Vars.get_set, I.h0]) (by simp [Vars.get_set])
  have e2 := hu2 ((σ.set 5 (.int k)).set 6 (.int (kdOf x : Nat))) (by simp [Vars.get_set, I.h3]) (by simp [Vars.get_set]) (by simp [Vars.get_set])
  have e3 := u3_ok (n := n) (σ := ((σ.set 5 (.int k)).set 6 (.int (kdOf x : Nat))).set 7 (.bool e)) (st := st')
  have e4 := u4_ok (n := n) (σ := (((σ.set 5 (.int k)).set 6 (.int (kdOf x : Nat))).set 7 (.bool e)).set 8 (.int 0)) (st := st') (kd := .int (kdOf x : Nat)) hk (by simp [Vars.get_set]; exact I.h1) (by simp [Vars.get_set]; exact I.h2) (by simp [Vars.get_set]; exact I.h4) (by simp [Vars.get_set]) (by simp [Vars.get_set]) hs r1
  have e5 := u5_ok (n := n) (σ := (((((σ.set 5 (.int k)).set 6 (.int (kdOf x : Nat))).set 7 (.bool e)).set 8 (.int 0)).set 4 (dD a' b' c')).set 8 (.int v)) (st := st') (a := a') (b := b') (c := c') (e := e) (by simp [Vars.get_set]) (by simp [Vars.get_set]) (by simp [Vars.get_set]) r4 r2 r3 (by rw [r5, ho])
  refine ⟨(((((σ.set 5 (.int k)).set 6 (.int (kdOf x : Nat))).set 7 (.bool e)).set 8 (.int 0)).set 4 (dD a' b' c')).set 8 (.int v), ⟨?_, ?_, ?_, ?_, ?_⟩, ?_, ?_, ?_, ?_⟩
  · simp [Vars.get_set]; exact I.h0
  · simp [Vars.get_set]; exact I.h1
  · simp [Vars.get_set]; exact I.h2
  · simp [Vars.get_set]; exact I.h3
  · simp [Vars.get_set]
  · simp [Vars.get_set]
  · simp [Vars.get_set]
  · simp [Vars.get_set]
  · rw [run, e1]; dsimp only [Option.bind_some]
    rw [run, e2]; dsimp only [Option.bind_some]
    rw [run, e3]; dsimp only [Option.bind_some]
    rw [run, e4]; dsimp only [Option.bind_some]
    rw [run, e5]; dsimp only [Option.bind_some]
theorem u6_run {n : Nat} (h : σ.get 7 = some (.bool false)) : run F1 (n + 55) σ st [u6] = some (.next, σ, st) := by
  rw [run, u6_next h]; dsimp only [Option.bind_some]; rw [run]
theorem beq_of {a b : Nat} (h : Nat.beq a b = true) : a = b := Nat.eq_of_beq_eq_true h
theorem nbeq_of {a b : Nat} (h : Nat.beq a b = false) : a ≠ b := fun e => by rw [e, Nat.beq_refl] at h; cases h
theorem over_b {a b c : Nat} (hb : b ≤ a) (hc : c ≤ a) : over a (b + 1) c = Nat.beq b a := by
  unfold over
  cases h : Nat.beq b a with
  | true => rw [beq_of h]; simp [Nat.blt, Nat.ble_eq]
  | false =>
    have := nbeq_of h
    have h1 : Nat.blt a (b + 1) = false := Bool.eq_false_iff.mpr fun e => by have := Nat.le_of_ble_eq_true e; omega
    have h2 : Nat.blt a c = false := Bool.eq_false_iff.mpr fun e => by have := Nat.le_of_ble_eq_true e; omega
    rw [h1, h2]; rfl
theorem over_c {a b c : Nat} (hb : b ≤ a) (hc : c ≤ a) : over a b (c + 1) = Nat.beq c a := by
  have := over_b (a := a) (b := c) (c := b) hc hb
  unfold over at this ⊢
  rw [Bool.or_comm]; exact this
theorem over_a {a b c : Nat} (hb : b ≤ a) (hc : c ≤ a) : over (a + 1) b c = false := by
  unfold over
  have h1 : Nat.blt (a + 1) b = false := Bool.eq_false_iff.mpr fun e => by have := Nat.le_of_ble_eq_true e; omega
  have h2 : Nat.blt (a + 1) c = false := Bool.eq_false_iff.mpr fun e => by have := Nat.le_of_ble_eq_true e; omega
  rw [h1, h2]; rfl
theorem preD_of {a b c kd : Nat} (h1 : 1 ≤ a) (h2 : a ≤ 4) (h3 : 1 ≤ b) (h4 : b ≤ a) (h5 : 1 ≤ c) (h6 : c ≤ a) (h7 : kd = 0 → a ≤ 3) : preD a b c kd = true := by
  unfold preD
  simp only [Bool.and_eq_true, Nat.ble_eq, h1, h2, h3, h4, h5, h6, true_and, Bool.or_eq_true, Bool.not_eq_true']
  cases h : Nat.beq kd 0 with
  | false => exact .inl rfl
  | true => exact .inr (h7 (beq_of h))
theorem postD_of {a b c : Nat} (h1 : 1 ≤ a) (h2 : a ≤ 4) (h3 : 1 ≤ b) (h4 : b ≤ a + 1) (h5 : 1 ≤ c) (h6 : c ≤ a + 1) (h7 : b ≤ a ∨ c ≤ a) (h8 : ¬ (a = 1 ∧ b = 1 ∧ c = 1)) : postD a b c = true := by
  unfold postD
  simp only [Bool.and_eq_true, Nat.ble_eq, h1, h2, h3, h4, h5, h6, true_and, Bool.or_eq_true, h7, Bool.not_eq_true']
  rw [Bool.eq_false_iff]
  intro e
  simp only [Bool.and_eq_true] at e
  exact h8 ⟨beq_of e.1.1, beq_of e.1.2, beq_of e.2⟩
theorem turn_go (n : Nat) (hl : w.length ≤ 30) (hcr : corner < 6) : ∀ (r p q : List Nat) (k a b c : Nat) (σ : Vars) (t : List Nat), w.drop k = r → 1 ≤ k → 1 ≤ a → a ≤ 4 → 1 ≤ b → b ≤ a → 1 ≤ c → c ≤ a → p.length ≤ k → q.length ≤ k → (∀ y ∈ p, y < k) → (∀ y ∈ q, y < k) → TI σ w corner first a b c →
    turnR w r k a b c p q = some t → ∃ σ' st', forGo (fun σ st => run F1 (n + 60) σ st b6) 5 (ixs k r.length) σ [pileS p, pileS q] = some (.ret (.str (S t)), σ', st')
  | [], p, q, k, a, b, c, σ, t, _, _, _, _, _, _, _, _, _, _, _, _, _, h => by cases h
  | x :: r, p, q, k, a, b, c, σ, t, hw, hk, ha1, ha4, hb1, hb, hc1, hc, hp, hq, hpk, hqk, I, h => by
    obtain ⟨hx, hw'⟩ := drop_next hw
    have hkl : k < w.length := (List.getElem?_eq_some_iff.mp hx).1
    have mod3 : (first + k) % 3 < 3 := Nat.mod_lt _ (by decide)
    rw [turnR_cons] at h
    rw [List.length_cons, ixs_succ, forGo]
    cases h97 : Nat.beq x 97 with
    | true =>
      rw [h97] at h
      have := beq_of h97; subst this
      dsimp only at h
      cases h3 : Nat.ble a 3 with
      | false => rw [h3] at h; cases h
      | true =>
        rw [h3] at h
        have ha3 : a ≤ 3 := Nat.le_of_ble_eq_true h3
        dsimp only at h
        obtain ⟨σ', I', g5, g6, g7, hrun⟩ := step (n := n) (e := false) (st := [pileS p, pileS q]) (st' := [pileS (k :: p), pileS (k :: q)]) (a' := a + 1) (b' := b) (c' := c) I hx (.inl rfl) hk (by omega) hcr
          (fun σ' z3 z5 z6 => u2_a (by omega) (by omega) (by omega) z3 z5 z6) (sent_0 (n + 12) a b c (first + k) (sAll_of (preD_of ha1 ha4 hb1 hb hc1 hc fun _ => ha3) (by decide) mod3) (by omega) (by omega) (by omega) _)
          (postD_of (by omega) (by omega) hb1 (by omega) hc1 (by omega) (.inl (by omega)) (by omega)) (over_a hb hc)
        rw [hrun, u6_run g7]; dsimp only [Option.bind_some]
        exact turn_go n hl hcr r (k :: p) (k :: q) (k + 1) (a + 1) b c σ' t hw' (by omega) (by omega) (by omega) hb1 (by omega) hc1 (by omega) (by simp; omega) (by simp; omega)
          (fun y hy => by rcases List.mem_cons.mp hy with e | hy; omega; have := hpk y hy; omega) (fun y hy => by rcases List.mem_cons.mp hy with e | hy; omega; have := hqk y hy; omega) I' h
    | false =>
      rw [h97] at h
      dsimp only at h
      cases h98 : Nat.beq x 98 with
      | true =>
        rw [h98] at h
        have := beq_of h98; subst this
        dsimp only at h
        cases p with
        | nil => cases h
        | cons y p =>
          dsimp only at h
          have hy : y < 40 := by have := hpk y (.head _); omega
          have hpl : p.length + 1 ≤ k := by simpa using hp
          have hs := sent_1 (n + 12) a b c (first + k) (sAll_of (preD_of ha1 ha4 hb1 hb hc1 hc fun e => by cases e) (by decide) mod3) (by omega) (by omega) (by omega) [pileS p, pileS q]
          have hpd := postD_of (a := a) (b := b + 1) (c := c) (by omega) (by omega) (by omega) (by omega) hc1 (by omega) (.inr hc) (by omega)
          cases hy0 : Nat.beq y 0 with
          | true =>
            cases hba : Nat.beq b a with
            | false => rw [hy0, hba] at h; cases h
            | true =>
              rw [hy0, hba] at h
              dsimp only at h
              obtain ⟨rfl, rfl, hj⟩ := turnEnd_some h
              obtain ⟨σ', I', g5, g6, g7, hrun⟩ := step (n := n) (e := true) (st := [pileS (y :: []), pileS q]) (st' := [pileS [], pileS q]) (a' := a) (b' := b + 1) (c' := c) I hx (.inr (.inl rfl)) hk (by omega) hcr
                (fun σ' z3 z5 z6 => by rw [← hy0]; exact u2_b hy (by simp) z3 z6) hs hpd ((over_b hb hc).trans hba)
              obtain ⟨σ2, hend⟩ := u6_end (n := n) (st := [pileS [], pileS q]) hx hk (by omega) (by omega) I'.h0 g5 g7 rfl hj (fun σ'' z3 z6 => v2_b (by rw [z3]; exact I'.h3) (by rw [z6]; exact g6))
              exact ⟨σ2, [pileS [], pileS q], by rw [hrun, run, hend]; rfl⟩
          | false =>
            cases hba : Nat.beq b a with
            | true => rw [hy0, hba] at h; cases h
            | false =>
              rw [hy0, hba] at h
              dsimp only at h
              have := nbeq_of hba
              obtain ⟨σ', I', g5, g6, g7, hrun⟩ := step (n := n) (e := false) (st := [pileS (y :: p), pileS q]) (st' := [pileS p, pileS q]) (a' := a) (b' := b + 1) (c' := c) I hx (.inr (.inl rfl)) hk (by omega) hcr
                (fun σ' z3 z5 z6 => by rw [← hy0]; exact u2_b hy (by omega) z3 z6) hs hpd ((over_b hb hc).trans hba)
              rw [hrun, u6_run g7]; dsimp only [Option.bind_some]
              exact turn_go n hl hcr r p q (k + 1) a (b + 1) c σ' t hw' (by omega) (by omega) (by omega) (by omega) (by omega) hc1 (by omega) (by omega) (by omega)
                (fun z hz => by have := hpk z (.tail _ hz); omega) (fun z hz => by have := hqk z hz; omega) I' h
      | false =>
        rw [h98] at h
        dsimp only at h
        cases h99 : Nat.beq x 99 with
        | false => rw [h99] at h; cases h
        | true =>
          rw [h99] at h
          have := beq_of h99; subst this
          dsimp only at h
          cases q with
          | nil => cases h
          | cons y q =>
            dsimp only at h
            have hy : y < 40 := by have := hqk y (.head _); omega
            have hql : q.length + 1 ≤ k := by simpa using hq
            have hs := sent_2 (n + 12) a b c (first + k) (sAll_of (preD_of ha1 ha4 hb1 hb hc1 hc fun e => by cases e) (by decide) mod3) (by omega) (by omega) (by omega) [pileS p, pileS q]
            have hpd := postD_of (a := a) (b := b) (c := c + 1) (by omega) (by omega) (by omega) (by omega) (by omega) (by omega) (.inl hb) (by omega)
            cases hy0 : Nat.beq y 0 with
            | true =>
              cases hba : Nat.beq c a with
              | false => rw [hy0, hba] at h; cases h
              | true =>
                rw [hy0, hba] at h
                dsimp only at h
                obtain ⟨rfl, rfl, hj⟩ := turnEnd_some h
                obtain ⟨σ', I', g5, g6, g7, hrun⟩ := step (n := n) (e := true) (st := [pileS p, pileS (y :: [])]) (st' := [pileS p, pileS []]) (a' := a) (b' := b) (c' := c + 1) I hx (.inr (.inr rfl)) hk (by omega) hcr
                  (fun σ' z3 z5 z6 => by rw [← hy0]; exact u2_c hy (by simp) z3 z6) hs hpd ((over_c hb hc).trans hba)
                obtain ⟨σ2, hend⟩ := u6_end (n := n) (st := [pileS p, pileS []]) hx hk (by omega) (by omega) I'.h0 g5 g7 rfl hj (fun σ'' z3 z6 => v2_c (by rw [z3]; exact I'.h3) (by rw [z6]; exact g6))
                exact ⟨σ2, [pileS p, pileS []], by rw [hrun, run, hend]; rfl⟩
            | false =>
              cases hba : Nat.beq c a with
              | true => rw [hy0, hba] at h; cases h
              | false =>
                rw [hy0, hba] at h
                dsimp only at h
                have := nbeq_of hba
                obtain ⟨σ', I', g5, g6, g7, hrun⟩ := step (n := n) (e := false) (st := [pileS p, pileS (y :: q)]) (st' := [pileS p, pileS q]) (a' := a) (b' := b) (c' := c + 1) I hx (.inr (.inr rfl)) hk (by omega) hcr
                  (fun σ' z3 z5 z6 => by rw [← hy0]; exact u2_c hy (by omega) z3 z6) hs hpd ((over_c hb hc).trans hba)
                rw [hrun, u6_run g7]; dsimp only [Option.bind_some]
                exact turn_go n hl hcr r p q (k + 1) a b (c + 1) σ' t hw' (by omega) (by omega) (by omega) (by omega) (by omega) (by omega) (by omega) (by omega) (by omega)
                  (fun z hz => by have := hpk z hz; omega) (fun z hz => by have := hqk z (.tail _ hz); omega) I' h
end
end Mine
end
section
open PySem PySem.W PySem.Calls PyProof.Rows
set_option Elab.async false
set_option maxRecDepth 100000
set_option maxHeartbeats 4000000
set_option linter.unusedSimpArgs false
namespace Mine
section
variable {corner first : Nat} {w : List Nat} {σ : Vars} {st : Store}
theorem start_run (n : Nat) (I : TI σ w corner first 1 1 1) (hx : w[0]? = some 97) (hl : w.length ≤ 30) :
    ∃ σ', TI σ' w corner first 1 1 1 ∧ run F1 (n + 60) (σ.set 5 (.int (0 : Nat))) [pileS [], pileS []] b6 = some (.next, σ', [pileS [0], pileS [0]]) := by
  have e1 := u1_ok (n := n) (σ := σ.set 5 (.int (0 : Nat))) (st := [pileS [], pileS []]) hx (.inl rfl) (by omega) (by simp [Vars.get_set, I.h0]) (by simp [Vars.get_set])
  have e2 := u2_a (n := n) (k := 0) (p := []) (q := []) (σ := (σ.set 5 (.int (0 : Nat))).set 6 (.int (kdOf 97 : Nat))) (by omega) (by simp) (by simp) (by simp [Vars.get_set, I.h3]) (by simp [Vars.get_set]) (by simp [Vars.get_set])
  have e3 := u3_ok (n := n) (σ := ((σ.set 5 (.int (0 : Nat))).set 6 (.int (kdOf 97 : Nat))).set 7 (.bool false)) (st := [pileS [0], pileS [0]])
  have e4 := u4_0 (n := n) (σ := (((σ.set 5 (.int (0 : Nat))).set 6 (.int (kdOf 97 : Nat))).set 7 (.bool false)).set 8 (.int 0)) (st := [pileS [0], pileS [0]]) (by simp [Vars.get_set])
  have e5 := u5_ok (n := n) (σ := (((σ.set 5 (.int (0 : Nat))).set 6 (.int (kdOf 97 : Nat))).set 7 (.bool false)).set 8 (.int 0)) (st := [pileS [0], pileS [0]]) (a := 1) (b := 1) (c := 1) (v := 0) (x := 1) (y := 1) (e := false)
    (by simp [Vars.get_set]) (by simp [Vars.get_set]; exact I.h4) (by simp [Vars.get_set]) (by decide) rfl rfl rfl
  refine ⟨(((σ.set 5 (.int (0 : Nat))).set 6 (.int (kdOf 97 : Nat))).set 7 (.bool false)).set 8 (.int 0), ⟨?_, ?_, ?_, ?_, ?_⟩, ?_⟩
  · simp [Vars.get_set]; exact I.h0
  · simp [Vars.get_set]; exact I.h1
  · simp [Vars.get_set]; exact I.h2
  · simp [Vars.get_set]; exact I.h3
  · simp [Vars.get_set]; exact I.h4
  · rw [run, e1]; dsimp only [Option.bind_some]
    rw [run, e2]; dsimp only [Option.bind_some]
    rw [run, e3]; dsimp only [Option.bind_some]
    rw [run, e4]; dsimp only [Option.bind_some]
    rw [run, e5]; dsimp only [Option.bind_some]
    rw [u6_run (by simp [Vars.get_set])]
theorem turned_ok (n : Nat) {t : List Nat} (h : turnF w = some t) (hl : w.length ≤ 30) (hcr : corner < 6) (st : Store) : callF F1 (n + 70) 6 [.str (S w), .int corner, .int first] st = some (.str (S t), st) := by
  have hw : ∃ r, w = 97 :: r ∧ turnR w r 1 1 1 1 [0] [0] = some t := by
    unfold turnF at h
    cases w with
    | nil => cases h
    | cons x r =>
      dsimp only at h
      cases hx : Nat.beq x 97 with
      | false => rw [hx] at h; cases h
      | true => rw [hx] at h; have := beq_of hx; subst this; exact ⟨r, rfl, h⟩
  obtain ⟨r, hr, ht⟩ := hw
  have I0 : TI [(0, .str (S w)), (1, .int corner), (2, .int first), (3, .lst [.ref 0, .ref 1]), (4, dD 1 1 1)] w corner first 1 1 1 := ⟨rfl, rfl, rfl, rfl, rfl⟩
  obtain ⟨σ1, I1, hs⟩ := start_run (n + 5) I0 (by rw [hr]; rfl) hl
  obtain ⟨σ2, st2, hg⟩ := turn_go (w := w) (corner := corner) (first := first) (n + 5) hl hcr r [0] [0] 1 1 1 1 σ1 t (by rw [hr]; rfl) (by decide) (by decide) (by decide) (by decide) (by decide) (by decide) (by decide) (by decide) (by decide) (fun y hy => by simp at hy; omega) (fun y hy => by simp at hy; omega) I1 ht
  have hlen : w.length = r.length + 1 := by rw [hr]; rfl
  have l1 := fun st => lenS st w (by omega)
  have l2 := fun st => rngN st w.length (by omega)
  have l3 := its_n w.length (by omega)
  have a1 : exec1 F1 (n + 68) [(0, .str (S w)), (1, .int corner), (2, .int first)] [] (.asg 3 (.lst [.acc0, .acc0])) = some (.next, [(0, .str (S w)), (1, .int corner), (2, .int first), (3, .lst [.ref 0, .ref 1])], [.acc [], .acc []]) := by
    simp [exec1, ev, evs, Vars.set]
  have a2 : exec1 F1 (n + 67) [(0, .str (S w)), (1, .int corner), (2, .int first), (3, .lst [.ref 0, .ref 1])] [.acc [], .acc []] (.asg 4 (.lst [(.lit (.int 1)), (.lit (.int 1)), (.lit (.int 1))])) = some (.next, [(0, .str (S w)), (1, .int corner), (2, .int first), (3, .lst [.ref 0, .ref 1]), (4, dD 1 1 1)], [.acc [], .acc []]) := by
    simp [exec1, ev, evs, Vars.set]
  have a3 : exec1 F1 (n + 66) [(0, .str (S w)), (1, .int corner), (2, .int first), (3, .lst [.ref 0, .ref 1]), (4, dD 1 1 1)] [.acc [], .acc []] (.for1 5 (.fn .range1 [(.fn .len [(.var 0)])]) b6) = some (.ret (.str (S t)), σ2, st2) := by
    rw [exec1.eq_def]; dsimp only
    have : ev F1 (n + 65) [(0, .str (S w)), (1, .int corner), (2, .int first), (3, .lst [.ref 0, .ref 1]), (4, dD 1 1 1)] [.acc [], .acc []] (.fn .range1 [(.fn .len [(.var 0)])]) = some (.rng 0 w.length 1, [.acc [], .acc []]) := by
      simp [ev, evs, Vars.get, l1, l2]
    rw [this, Option.bind_some, l3, Option.bind_some, hlen, ixs_succ, forGo]
    have hs : run F1 (n + 65) _ [.acc [], .acc []] b6 = _ := hs
    rw [hs]; dsimp only [Option.bind_some]
    exact hg
  simp only [callF, F1, pf6_body, show pf6.params = [0, 1, 2] from rfl, setAll, Option.bind_some, D.refsLts, D.refsLt, Bool.and_self, Vars.set, Nat.beq]
  rw [run, a1]; dsimp only [Option.bind_some]
  rw [run, a2]; dsimp only [Option.bind_some]
  rw [run, a3]; dsimp only [Option.bind_some]
  simp [D.refsLt]
end
end Mine
end
section
open PySem PySem.W PySem.Calls PyProof.Rows PySem.Builtin.Str
set_option Elab.async false
set_option maxRecDepth 100000
set_option maxHeartbeats 4000000
set_option linter.unusedSimpArgs false
namespace Mine
theorem cnt_cons (x y : Nat) (r : List Nat) : cnt x (y :: r) = if Nat.beq y x = true then Nat.succ (cnt x r) else cnt x r := by
  show (Bool.rec (motive := fun _ => Nat) (cnt x r) (Nat.succ (cnt x r)) (Nat.beq y x) : Nat) = _
  cases Nat.beq y x <;> rfl
theorem cnt_le (x : Nat) : ∀ r : List Nat, cnt x r ≤ r.length
  | [] => Nat.le_refl _
  | y :: r => by
    rw [cnt_cons, List.length_cons]
    have := cnt_le x r
    split
    · exact Nat.succ_le_succ this
    · exact Nat.le_succ_of_le this
theorem occ_count (x : Str) (c : Nat) : ∀ (r : List Nat) (k free : Nat) (f : Array Nat), x.cps.toList.drop k = r → free ≤ k → f.size ≤ k → k ≤ x.length →
    (forIn (List.range' k (r.length + 1)) (f, free) (StrLaws.occBody x ⟨#[c]⟩ x.length (x.length + 1))).run.fst.size = f.size + cnt c r
  | [], k, free, f, hr, h1, h2, h3 => by
    have hk : x.cps.toList[k]? ≠ some c := by
      intro e
      have := List.length_eq_zero_iff.mpr hr
      rw [List.length_drop] at this
      have := (List.getElem?_eq_some_iff.mp e).1
      omega
    rw [List.length_nil, show List.range' k (0 + 1) = [k] from rfl, List.forIn_cons]
    unfold StrLaws.occBody
    rw [if_neg (fun h => hk ((StrLaws.subAt_one x c k).mp ⟨h.1.2, h.2⟩))]
    rfl
  | y :: r, k, free, f, hr, h1, h2, h3 => by
    have e1 : x.cps.toList[k]? = some y := by
      have := congrArg List.head? hr
      simpa using this
    have e2 : x.cps.toList.drop (k + 1) = r := by
      have := congrArg List.tail hr
      simpa using this
    have hk : k < x.length := by
      have := (List.getElem?_eq_some_iff.mp e1).1
      simpa [Str.length] using this
    rw [List.length_cons, List.range'_succ, List.forIn_cons, cnt_cons]
    cases hy : Nat.beq y c with
    | true =>
      have := Nat.eq_of_beq_eq_true hy; subst this
      have q := (StrLaws.subAt_one x y k).mpr e1
      have q1 : (f.size < x.length + 1 ∧ free ≤ k) ∧ k + (⟨#[y]⟩ : Str).length ≤ x.length := ⟨⟨by omega, h1⟩, q.1⟩
      have hb : StrLaws.occBody x ⟨#[y]⟩ x.length (x.length + 1) k (f, free) = pure (ForInStep.yield (f.push k, k + 1)) := by
        unfold StrLaws.occBody
        rw [if_pos ⟨q1, q.2⟩]; rfl
      rw [hb]
      have := occ_count x y r (k + 1) (k + 1) (f.push k) e2 (Nat.le_refl _) (by simp; omega) hk
      simp only [Array.size_push] at this
      refine Eq.trans this ?_
      rw [if_pos rfl]
      exact Nat.succ_add _ _
    | false =>
      have hn : ¬ x.cps.toList[k]? = some c := by
        rw [e1]; intro e; cases e; rw [Nat.beq_refl] at hy; cases hy
      have hb : StrLaws.occBody x ⟨#[c]⟩ x.length (x.length + 1) k (f, free) = pure (ForInStep.yield (f, free)) := by
        unfold StrLaws.occBody
        rw [if_neg (fun h => hn ((StrLaws.subAt_one x c k).mp ⟨h.1.2, h.2⟩))]
      rw [hb, if_neg (by decide)]
      exact occ_count x c r (k + 1) free f e2 (by omega) (by omega) hk
theorem count_S (w : List Nat) (c : Nat) : Txt.count (S w) ⟨#[c]⟩ = (cnt c w : Nat) := by
  unfold Txt.count
  rw [StrLaws.occ_eq]
  have h : (S w).length = w.length := S_len w
  have := occ_count (S w) c w 0 0 #[] (by simp) (Nat.le_refl _) (Nat.le_refl _) (Nat.zero_le _)
  rw [h] at this ⊢
  rw [Nat.sub_zero, Array.length_toList, this]; simp
end Mine
end
section
open PySem PySem.W PySem.Calls PyProof.Rows
set_option Elab.async false
set_option maxRecDepth 100000
set_option maxHeartbeats 4000000
set_option linter.unusedSimpArgs false
namespace Mine
noncomputable abbrev ch (c : Nat) : D := .str ⟨#[c]⟩
noncomputable abbrev spare : List D := [.int 0, .int 1, .int 2, .int 0, .int 0, .int 1, .int 0, .int 0, .int 1, .int 2, .int 1]
noncomputable abbrev scD (ns : List Int) : D := .lst (ns.map .int)
noncomputable abbrev wA : PS := (.asg 5 (.ite (.cmp1 .Lt (.var 4) (.fn .len [(.var 0)])) (.idx (.var 0) (.var 4)) (.idx (.var 2) (.var 4))))
noncomputable abbrev wB : PS := (.asg 7 (.comp (.var 6) 6 (.lit (.str ⟨#[97, 98, 99]⟩)) (some (.cmp1 .Lt (.me .count (.var 3) [(.var 6)]) (.ite (.cmp1 .Eq (.var 6) (.lit (.str ⟨#[97]⟩))) (.var 1) (.me .count (.var 3) [(.lit (.str ⟨#[97]⟩))]))))))
noncomputable abbrev wC : PS := (.asg 3 (.bin .Add (.var 3) (.idx (.var 7) (.bin .Mod (.var 5) (.fn .len [(.var 7)])))))
noncomputable abbrev b2 : List PS := [wA, wB, wC]
theorem pf2_body : pf2.body = [(.asg 2 (.lst [(.lit (.int 0)), (.lit (.int 1)), (.lit (.int 2)), (.lit (.int 0)), (.lit (.int 0)), (.lit (.int 1)), (.lit (.int 0)), (.lit (.int 0)), (.lit (.int 1)), (.lit (.int 2)), (.lit (.int 1))])),
  (.asg 3 (.lit (.str ⟨#[97]⟩))), (.for1 4 (.fn .range1 [(.bin .Sub (.bin .Mult (.lit (.int 3)) (.var 1)) (.lit (.int 1)))]) b2), (.ret (.var 3))] := rfl
structure WI (σ : Vars) (ns : List Int) (size : Nat) (w : List Nat) : Prop where
  h0 : σ.get 0 = some (scD ns)
  h1 : σ.get 1 = some (.int size)
  h2 : σ.get 2 = some (.lst spare)
  h3 : σ.get 3 = some (.str (S w))
theorem idxL (st : Store) (l : List D) (k : Nat) (h : k ≤ lid) : idxP st (.lst l) (.int k) = l[k]? := by
  show (if okIdx (k : Int) = true then l[(k : Int).toNat]? else none) = _
  rw [if_pos (by unfold okIdx; rw [decide_eq_true (by omega), decide_eq_true (by simpa using h)]; rfl), Int.toNat_natCast]
theorem lenL (st : Store) (l : List D) (h : l.length ≤ lid) : fnP st .len [.lst l] = some (.int l.length) := leP_of h
theorem ltN (a b : Nat) : decide ((a : Int) < (b : Int)) = Nat.blt a b := by
  cases h : Nat.blt a b with
  | true => have := Nat.le_of_ble_eq_true h; simp; omega
  | false =>
    simp
    refine Nat.le_of_not_lt fun e => ?_
    have : Nat.blt a b = true := Nat.ble_eq.mpr e
    rw [this] at h; cases h
section
variable {ns : List Int} {size k : Nat} {w : List Nat} {σ : Vars} {st : Store}
theorem wA_ok (n : Nat) (I : WI σ ns size w) (h4 : σ.get 4 = some (.int k)) (hk : k < 11) (hn : ns.length ≤ 63) : ∃ x : Int, exec1 F1 (n + 29) σ st wA = some (.next, σ.set 5 (.int x), st) := by
  have l1 := fun st => lenL st (ns.map .int) (by simp [lid]; omega)
  simp only [List.length_map] at l1
  have i1 := fun st => idxL st (ns.map .int) k (le_lid (by omega))
  have i2 := fun st => idxL st spare k (le_lid (by omega))
  by_cases hkn : k < ns.length
  · refine ⟨ns[k], ?_⟩
    have : (ns.map D.int)[k]? = some (.int ns[k]) := by simp [hkn]
    rw [this] at i1
    simp [exec1, ev, evs, evT, I.h0, h4, l1, cLt, hkn, i1]
  · have : ∃ x : Int, spare[k]? = some (.int x) := by
      have : ∀ k < 11, ∃ x : Int, spare[k]? = some (.int x) := by
        intro k hk
        match k, hk with
        | 0, _ => exact ⟨_, rfl⟩
        | 1, _ => exact ⟨_, rfl⟩
        | 2, _ => exact ⟨_, rfl⟩
        | 3, _ => exact ⟨_, rfl⟩
        | 4, _ => exact ⟨_, rfl⟩
        | 5, _ => exact ⟨_, rfl⟩
        | 6, _ => exact ⟨_, rfl⟩
        | 7, _ => exact ⟨_, rfl⟩
        | 8, _ => exact ⟨_, rfl⟩
        | 9, _ => exact ⟨_, rfl⟩
        | 10, _ => exact ⟨_, rfl⟩
      exact this k hk
    obtain ⟨x, hx⟩ := this
    refine ⟨x, ?_⟩
    rw [hx] at i2
    simp [exec1, ev, evs, evT, I.h0, I.h2, h4, l1, cLt, hkn, i2]
theorem abc_items : items (.str ⟨#[97, 98, 99]⟩) = some [ch 97, ch 98, ch 99] := rfl
theorem wB_ok (n : Nat) (I : WI σ ns size w) : exec1 F1 (n + 28) σ st wB = some (.next, σ.set 7 (.lst ((mayF size w).map ch)), st) := by
  have c1 := fun st => (count_ok st (S w) ⟨#[97]⟩).trans (by rw [count_S])
  have c2 := fun st => (count_ok st (S w) ⟨#[98]⟩).trans (by rw [count_S])
  have c3 := fun st => (count_ok st (S w) ⟨#[99]⟩).trans (by rw [count_S])
  have a1 : decide ((cnt 97 w : Int) < (size : Int)) = okA size w := ltN _ _
  have a2 : decide ((cnt 98 w : Int) < (cnt 97 w : Int)) = okB 98 w := ltN _ _
  have a3 : decide ((cnt 99 w : Int) < (cnt 97 w : Int)) = okB 99 w := ltN _ _
  unfold mayF
  cases h1 : okA size w <;> cases h2 : okB 98 w <;> cases h3 : okB 99 w <;> rw [h1] at a1 <;> rw [h2] at a2 <;> rw [h3] at a3 <;>
    simp only [exec1, ev, evs, evT, abc_items, List.length_cons, List.length_nil, Nat.ble, lid, compGo, Option.bind_some, Option.map_some, Vars.get_set, if_true, show ¬ ((6 : Nat) = 3) by decide, show ¬ ((6 : Nat) = 1) by decide, if_false, I.h3, I.h1, c1, c2, c3, cEqS, Nat.beq, cLt, a1, a2, a3, List.nil_append, List.cons_append, List.map_cons, List.map_nil, Bool.false_eq_true]
theorem wC_ok (n : Nat) {x : Int} (I : WI σ ns size w) (h5 : σ.get 5 = some (.int x)) (h7 : σ.get 7 = some (.lst ((mayF size w).map ch))) (hm : mayF size w ≠ []) (hl : w.length ≤ 1000) :
    ∃ c ∈ mayF size w, exec1 F1 (n + 27) σ st wC = some (.next, σ.set 3 (.str (S (w ++ [c]))), st) := by
  have hlen : (mayF size w).length ≤ 3 := by
    unfold mayF
    rw [List.length_append, List.length_append]
    have q : ∀ (b : Bool) (c : Nat), (if b = true then [c] else []).length ≤ 1 := fun b c => by cases b <;> simp
    have := q (okA size w) 97; have := q (okB 98 w) 98; have := q (okB 99 w) 99
    omega
  have hpos : 0 < (mayF size w).length := List.length_pos_iff.mpr hm
  have l1 := fun st => lenL st ((mayF size w).map ch) (by simp [lid]; omega)
  simp only [List.length_map] at l1
  have hmod : binP .Mod (.int x) (.int (mayF size w).length) = some (.int (x.fmod (mayF size w).length)) := by
    refine orP_l ?_
    show (if ((mayF size w).length : Int) = 0 then none else some (D.int (Int.fmod x (mayF size w).length))) = _
    rw [if_neg (by omega)]
  obtain ⟨j, hj⟩ : ∃ j : Nat, x.fmod (mayF size w).length = (j : Int) := ⟨_, (Int.toNat_of_nonneg (Int.fmod_nonneg_of_pos x (by omega))).symm⟩
  have hjl : j < (mayF size w).length := by
    have := Int.fmod_lt_of_pos x (b := ((mayF size w).length : Int)) (by omega)
    omega
  rw [hj] at hmod
  have i1 := fun st => idxL st ((mayF size w).map ch) j (le_lid (by omega))
  have : ((mayF size w).map ch)[j]? = some (ch (mayF size w)[j]) := by simp [hjl]
  rw [this] at i1
  have a1 := addSS (a := w) (b := [(mayF size w)[j]]) (by simp; omega)
  refine ⟨(mayF size w)[j], List.getElem_mem _, ?_⟩
  simp only [exec1, ev, evs, I.h3, h5, h7, Option.map_some, Option.bind_some, l1, hmod, i1, a1]
theorem word_go (n : Nat) {P : List Nat → Bool} (hn : ns.length ≤ 63) : ∀ (m k : Nat) (w : List Nat) (σ : Vars), allW size P m w = true → k + m ≤ 11 → w.length ≤ k + 1 → (∀ c ∈ w, c = 97 ∨ c = 98 ∨ c = 99) → WI σ ns size w →
    ∃ σ' w', forGo (fun σ st => run F1 (n + 30) σ st b2) 4 (ixs k m) σ st = some (.next, σ', st) ∧ P w' = true ∧ w'.length ≤ k + m + 1 ∧ (∀ c ∈ w', c = 97 ∨ c = 98 ∨ c = 99) ∧ WI σ' ns size w'
  | 0, k, w, σ, h, hk, hl, hw, I => ⟨σ, w, rfl, h, hl, hw, I⟩
  | m + 1, k, w, σ, h, hk, hl, hw, I => by
    obtain ⟨hm, hall⟩ := allW_succ h
    have I0 : WI (σ.set 4 (.int k)) ns size w := ⟨by simp [Vars.get_set, I.h0], by simp [Vars.get_set, I.h1], by simp [Vars.get_set, I.h2], by simp [Vars.get_set, I.h3]⟩
    obtain ⟨x, e1⟩ := wA_ok (st := st) n I0 (by simp [Vars.get_set]) (by omega : k < 11) hn
    have I1 : WI ((σ.set 4 (.int k)).set 5 (.int x)) ns size w := ⟨by simp [Vars.get_set, I.h0], by simp [Vars.get_set, I.h1], by simp [Vars.get_set, I.h2], by simp [Vars.get_set, I.h3]⟩
    have e2 := wB_ok (st := st) n I1
    have I2 : WI (((σ.set 4 (.int k)).set 5 (.int x)).set 7 (.lst ((mayF size w).map ch))) ns size w := ⟨by simp [Vars.get_set, I.h0], by simp [Vars.get_set, I.h1], by simp [Vars.get_set, I.h2], by simp [Vars.get_set, I.h3]⟩
    obtain ⟨c, hc, e3⟩ := wC_ok (st := st) n I2 (x := x) (by simp [Vars.get_set]) (by simp [Vars.get_set]) hm (by omega)
    have hc3 : c = 97 ∨ c = 98 ∨ c = 99 := by
      unfold mayF at hc
      rcases List.mem_append.mp hc with q | q
      · split at q
        · exact .inl (List.mem_singleton.mp q)
        · cases q
      · rcases List.mem_append.mp q with q | q
        · split at q
          · exact .inr (.inl (List.mem_singleton.mp q))
          · cases q
        · split at q
          · exact .inr (.inr (List.mem_singleton.mp q))
          · cases q
    have I3 : WI ((((σ.set 4 (.int k)).set 5 (.int x)).set 7 (.lst ((mayF size w).map ch))).set 3 (.str (S (w ++ [c])))) ns size (w ++ [c]) := ⟨by simp [Vars.get_set, I.h0], by simp [Vars.get_set, I.h1], by simp [Vars.get_set, I.h2], by simp [Vars.get_set]⟩
    obtain ⟨σ', w', g1, g2, g3, g4, g5⟩ := word_go n hn m (k + 1) (w ++ [c]) _ (hall c hc) (by omega) (by simp; omega) (fun d hd => by
      rcases List.mem_append.mp hd with q | q
      · exact hw d q
      · rw [List.mem_singleton.mp q]; exact hc3) I3
    refine ⟨σ', w', ?_, g2, by omega, g4, g5⟩
    rw [ixs_succ, forGo]
    have : run F1 (n + 30) (σ.set 4 (.int k)) st b2 = some (.next, (((σ.set 4 (.int k)).set 5 (.int x)).set 7 (.lst ((mayF size w).map ch))).set 3 (.str (S (w ++ [c]))), st) := by
      rw [run, e1]; dsimp only [Option.bind_some]
      rw [run, e2]; dsimp only [Option.bind_some]
      rw [run, e3]; dsimp only [Option.bind_some]
      rw [run]
    rw [this]; exact g1
end
end Mine
end
section
open PySem PySem.W PySem.Calls PyProof.Rows
set_option Elab.async false
set_option maxRecDepth 100000
set_option maxHeartbeats 4000000
set_option linter.unusedSimpArgs false
namespace Mine
theorem ints_closed (ns : List Int) : D.refsLts 0 (ns.map .int) = true := by
  induction ns with
  | nil => rfl
  | cons a r ih => simp [D.refsLts, D.refsLt, ih]
theorem mul3 {s : Nat} (h : s ≤ 4) : binP .Mult (.int 3) (.int (s : Nat)) = some (.int (3 * (s : Nat))) := by
  match s, h with
  | 0, _ => rfl
  | 1, _ => rfl
  | 2, _ => rfl
  | 3, _ => rfl
  | 4, _ => rfl
section
variable {ns : List Int} {w v : List Nat} {σ : Vars} {st : Store}
theorem word_ok (n m size : Nat) {P : List Nat → Bool} (hn : ns.length ≤ 63) (hm : m ≤ 11) (hs : 3 * size = m + 1) (h : allW size P m [97] = true) (st : Store) :
    ∃ w, callF F1 (n + 40) 2 [scD ns, .int size] st = some (.str (S w), st) ∧ P w = true ∧ w.length ≤ 12 ∧ (∀ c ∈ w, c = 97 ∨ c = 98 ∨ c = 99) := by
  obtain ⟨σ', w', g1, g2, g3, g4, g5⟩ := word_go (st := []) (ns := ns) (size := size) (n + 5) hn m 0 [97] [(0, scD ns), (1, .int size), (2, .lst spare), (3, .str ⟨#[97]⟩)] h (by omega) (by simp) (by simp) ⟨rfl, rfl, rfl, rfl⟩
  refine ⟨w', ?_, g2, by omega, g4⟩
  have l2 := fun st => rngN st m (by omega)
  have l3 := its_n m (by omega)
  have a1 : exec1 F1 (n + 38) [(0, scD ns), (1, .int size)] [] (.asg 2 (.lst [(.lit (.int 0)), (.lit (.int 1)), (.lit (.int 2)), (.lit (.int 0)), (.lit (.int 0)), (.lit (.int 1)), (.lit (.int 0)), (.lit (.int 0)), (.lit (.int 1)), (.lit (.int 2)), (.lit (.int 1))])) = some (.next, [(0, scD ns), (1, .int size), (2, .lst spare)], []) := by
    simp [exec1, ev, evs, Vars.set]
  have a2 : exec1 F1 (n + 37) [(0, scD ns), (1, .int size), (2, .lst spare)] [] (.asg 3 (.lit (.str ⟨#[97]⟩))) = some (.next, [(0, scD ns), (1, .int size), (2, .lst spare), (3, .str ⟨#[97]⟩)], []) := by
    simp [exec1, ev, Vars.set]
  have mu : binP .Mult (.int 3) (.int size) = some (.int ((m : Int) + 1)) := by
    rw [mul3 (by omega)]
    exact congrArg (fun x => some (D.int x)) (by omega)
  have su : binP .Sub (.int ((m : Int) + 1)) (.int 1) = some (.int m) := by rw [subI]; exact congrArg (fun x => some (D.int x)) (by omega)
  have a3 : exec1 F1 (n + 36) [(0, scD ns), (1, .int size), (2, .lst spare), (3, .str ⟨#[97]⟩)] [] (.for1 4 (.fn .range1 [(.bin .Sub (.bin .Mult (.lit (.int 3)) (.var 1)) (.lit (.int 1)))]) b2) = some (.next, σ', []) := by
    rw [exec1.eq_def]; dsimp only
    have : ev F1 (n + 35) [(0, scD ns), (1, .int size), (2, .lst spare), (3, .str ⟨#[97]⟩)] [] (.fn .range1 [(.bin .Sub (.bin .Mult (.lit (.int 3)) (.var 1)) (.lit (.int 1)))]) = some (.rng 0 m 1, []) := by
      simp only [ev, evs, Vars.get, Nat.beq, Option.map_some, Option.bind_some, mu, su, l2]
    rw [this, Option.bind_some, l3, Option.bind_some]
    exact g1
  have a4 : exec1 F1 (n + 35) σ' [] (.ret (.var 3)) = some (.ret (.str (S w')), σ', []) := by
    simp [exec1, ev, g5.h3]
  simp only [callF, F1, pf2_body, show pf2.params = [0, 1] from rfl, setAll, Option.bind_some, D.refsLts, D.refsLt, ints_closed, Bool.and_self, Vars.set, Nat.beq]
  rw [run, a1]; dsimp only [Option.bind_some]
  rw [run, a2]; dsimp only [Option.bind_some]
  rw [run, a3]; dsimp only [Option.bind_some]
  rw [run, a4]; dsimp only [Option.bind_some]
  simp [D.refsLt]
/-- a word turned grows by no more than one -/
theorem turnR_len {w t : List Nat} : ∀ (r : List Nat) (k a b c : Nat) (p q : List Nat), turnR w r k a b c p q = some t → ∃ k x, t = newW w k x
  | [], _, _, _, _, _, _, h => by cases h
  | x :: r, k, a, b, c, p, q, h => by
    rw [turnR_cons] at h
    split at h
    · split at h
      · exact turnR_len r _ _ _ _ _ _ h
      · cases h
    · split at h
      · split at h
        · cases h
        · split at h
          · exact ⟨_, _, (turnEnd_some h).2.1⟩
          · exact turnR_len r _ _ _ _ _ _ h
          · cases h
      · split at h
        · split at h
          · cases h
          · split at h
            · exact ⟨_, _, (turnEnd_some h).2.1⟩
            · exact turnR_len r _ _ _ _ _ _ h
            · cases h
        · cases h
theorem turnF_len {w t : List Nat} (h : turnF w = some t) : t.length ≤ w.length + 1 ∧ t ≠ [] := by
  unfold turnF at h
  cases w with
  | nil => cases h
  | cons x r =>
    dsimp only at h
    cases hx : Nat.beq x 97 with
    | false => rw [hx] at h; cases h
    | true =>
      rw [hx] at h
      obtain ⟨k, y, rfl⟩ := turnR_len _ _ _ _ _ _ _ h
      refine ⟨?_, by simp [newW]⟩
      simp [newW]
      omega
theorem turnN_succ {m : Nat} {w v : List Nat} (h : turnN (m + 1) w = some v) : ∃ t, turnF w = some t ∧ turnN m t = some v := by
  have h' : (Option.rec (motive := fun _ => OL) none (fun w => turnN m w) (turnF w) : OL) = some v := h
  cases ht : turnF w with
  | none => rw [ht] at h'; cases h'
  | some t => rw [ht] at h'; exact ⟨t, rfl, h'⟩
noncomputable abbrev lA : PS := (.asg 3 (.call 6 [(.var 3), (.bin .Mod (.fn .sumL [(.var 0)]) (.lit (.int 6))), (.var 4)]))
noncomputable abbrev lB : PS := (.ifs (.cmp1 .Eq (.var 3) (.lit (.str ⟨#[]⟩))) [(.ret (.lit (.bool false)))] [])
noncomputable abbrev b7 : List PS := [lA, lB]
noncomputable abbrev lC : PS := (.ret (.cmp1 .Eq (.var 3) (.me .join (.lit (.str ⟨#[]⟩)) [(.comp (.idx (.lit (.str ⟨#[97, 99, 98]⟩)) (.me .index (.lit (.str ⟨#[97, 98, 99]⟩)) [(.var 5)])) 5 (.var 2) .none)])))
theorem pf7_body : pf7.body = [(.asg 1 (.ite (.cmp1 .Lt (.fn .len [(.var 0)]) (.lit (.int 10))) (.lit (.int 3)) (.lit (.int 4)))), (.asg 2 (.call 2 [(.var 0), (.var 1)])), (.asg 3 (.var 2)), (.for1 4 (.fn .range1 [(.bin .Mult (.lit (.int 3)) (.var 1))]) b7), lC] := rfl
theorem sum_ok (st : Store) (ns : List Int) : fnP st .sumL [scD ns] = some (.int ns.sum) := by
  have : intsOf (ns.map .int) = some ns := by
    induction ns with
    | nil => rfl
    | cons a r ih => simp [intsOf, ih]
  show (intsOf (ns.map .int)).map (fun x => D.int x.sum) = _
  rw [this]; rfl
theorem mod6 (x : Int) : ∃ c : Nat, c < 6 ∧ binP .Mod (.int x) (.int 6) = some (.int c) := by
  obtain ⟨j, hj⟩ : ∃ j : Nat, x.fmod 6 = (j : Int) := ⟨_, (Int.toNat_of_nonneg (Int.fmod_nonneg_of_pos x (by decide))).symm⟩
  refine ⟨j, ?_, ?_⟩
  · have := Int.fmod_lt_of_pos x (b := 6) (by decide); omega
  · show (if (6 : Int) = 0 then none else some (D.int (Int.fmod x 6))) = _
    rw [if_neg (by decide), hj]
theorem S_ne {t : List Nat} (h : t ≠ []) (st : Store) : cmpP st .Eq (.str (S t)) (.str ⟨#[]⟩) = some false := by
  show some ((S t : Str) == ⟨#[]⟩) = some false
  congr 1
  rw [beq_eq_false_iff_ne]
  intro e
  injection e with e
  exact h (by simpa using e)
theorem law_go (n : Nat) : ∀ (m k : Nat) (w : List Nat) (σ : Vars), turnN m w = some v → w.length + m ≤ 30 → σ.get 0 = some (scD ns) → σ.get 3 = some (.str (S w)) →
    ∃ σ', forGo (fun σ st => run F1 (n + 80) σ st b7) 4 (ixs k m) σ st = some (.next, σ', st) ∧ σ'.get 3 = some (.str (S v)) ∧ σ'.get 2 = σ.get 2
  | 0, k, w, σ, h, hl, h0, h3 => by
    have : some w = some v := h
    cases this
    exact ⟨σ, rfl, h3, rfl⟩
  | m + 1, k, w, σ, h, hl, h0, h3 => by
    obtain ⟨t, ht, h⟩ := turnN_succ h
    obtain ⟨t1, t2⟩ := turnF_len ht
    obtain ⟨c, hc, hmod⟩ := mod6 ns.sum
    have hcall : callF F1 (n + 77) 6 [.str (S w), .int c, .int k] st = _ := turned_ok (n + 7) ht (by omega) hc st
    have e1 : exec1 F1 (n + 79) (σ.set 4 (.int k)) st lA = some (.next, (σ.set 4 (.int k)).set 3 (.str (S t)), st) := by
      have su := fun st => sum_ok st ns
      simp only [exec1, ev, evs, Vars.get_set, show ¬ ((4 : Nat) = 3) by decide, show ¬ ((4 : Nat) = 0) by decide, if_false, if_true, h0, h3, Option.map_some, Option.bind_some, su, hmod, hcall]
    have e2 : exec1 F1 (n + 78) ((σ.set 4 (.int k)).set 3 (.str (S t))) st lB = some (.next, (σ.set 4 (.int k)).set 3 (.str (S t)), st) := by
      have ne := fun st => S_ne t2 st
      simp only [exec1, evT, ev, Vars.get_set, if_true, Option.map_some, Option.bind_some, ne, run]
    obtain ⟨σ', g1, g2, g3⟩ := law_go n m (k + 1) t ((σ.set 4 (.int k)).set 3 (.str (S t))) h (by omega) (by simp [Vars.get_set, h0]) (by simp [Vars.get_set])
    refine ⟨σ', ?_, g2, by rw [g3]; simp [Vars.get_set]⟩
    rw [ixs_succ, forGo]
    have : run F1 (n + 80) (σ.set 4 (.int k)) st b7 = some (.next, (σ.set 4 (.int k)).set 3 (.str (S t)), st) := by
      rw [run, e1]; dsimp only [Option.bind_some]
      rw [run, e2]; dsimp only [Option.bind_some]
      rw [run]
    rw [this]; exact g1
theorem cps_items (w : List Nat) : items (.str (S w)) = some (w.map ch) := by
  show some ((S w).cps.toList.map fun c => D.str ⟨#[c]⟩) = _
  simp
theorem swp_idx (st : Store) {c : Nat} (h : c = 97 ∨ c = 98 ∨ c = 99) : idxP st (.str ⟨#[97, 99, 98]⟩) (.int (kdOf c : Nat)) = some (ch (swp c)) := by
  rcases h with rfl | rfl | rfl <;> rfl
theorem swap_go (n : Nat) : ∀ (w : List Nat) (acc : List D), (∀ c ∈ w, c = 97 ∨ c = 98 ∨ c = 99) →
    compGo (fun _ st => some (true, st)) (fun σ st => ev F1 (n + 10) σ st (.idx (.lit (.str ⟨#[97, 99, 98]⟩)) (.me .index (.lit (.str ⟨#[97, 98, 99]⟩)) [(.var 5)]))) 5 σ (w.map ch) st acc = some (acc ++ (w.map swp).map ch, st)
  | [], acc, _ => by simp [compGo]
  | c :: w, acc, h => by
    have hc := h c (.head _)
    have i1 := fun st => index_ok st c hc
    have i2 := fun st => swp_idx st hc
    rw [List.map_cons, compGo]
    have : ev F1 (n + 10) (σ.set 5 (ch c)) st (.idx (.lit (.str ⟨#[97, 99, 98]⟩)) (.me .index (.lit (.str ⟨#[97, 98, 99]⟩)) [(.var 5)])) = some (ch (swp c), st) := by
      simp only [ev, evs, Vars.get_set, if_true, Option.map_some, Option.bind_some, i1, i2]
    dsimp only [Option.bind_some]
    rw [this]; dsimp only [Option.bind_some]
    rw [swap_go n w _ fun d hd => h d (.tail _ hd)]
    simp
theorem join_chars : ∀ w : List Nat, Txt.join ⟨#[]⟩ (w.map fun c => (⟨#[c]⟩ : Str)) = S w := by
  intro w
  show Builtin.Str.glued ⟨#[]⟩ _ = _
  rw [StrLaws.glued_eq_join]
  induction w with
  | nil => rfl
  | cons c r ih =>
    cases r with
    | nil => rfl
    | cons d r =>
      show (⟨#[c]⟩ : Str) ++ ⟨#[]⟩ ++ Str.join ⟨#[]⟩ ((d :: r).map fun c => (⟨#[c]⟩ : Str)) = _
      rw [ih]
      show Str.append (Str.append ⟨#[c]⟩ ⟨#[]⟩) (S (d :: r)) = _
      unfold Str.append
      simp
theorem join_ok {w : List Nat} (h : w.length ≤ 100) (st : Store) : meP st .join (.str ⟨#[]⟩) [.lst (w.map ch)] = some (.str (S w)) := by
  have := joinL st ⟨#[]⟩ (w.map fun c => (⟨#[c]⟩ : Str)) (by
    unfold JoinOk
    rw [StrLaws.joinFits (B := 1) (fun y hy => by obtain ⟨c, _, rfl⟩ := List.mem_map.mp hy; exact Nat.le_refl _) (by simp [Str.length]; omega)]
    rfl)
  rw [join_chars, List.map_map] at this
  exact this
theorem lC_ok (n : Nat) (hw : w.length ≤ 100) (hc : ∀ c ∈ w, c = 97 ∨ c = 98 ∨ c = 99) (h2 : σ.get 2 = some (.str (S w))) (h3 : σ.get 3 = some (.str (S (w.map swp)))) : exec1 F1 (n + 20) σ st lC = some (.ret (.bool true), σ, st) := by
  have e : ev F1 (n + 16) σ st (.comp (.idx (.lit (.str ⟨#[97, 99, 98]⟩)) (.me .index (.lit (.str ⟨#[97, 98, 99]⟩)) [(.var 5)])) 5 (.var 2) .none) = some (.lst ((w.map swp).map ch), st) := by
    rw [ev.eq_def]; dsimp only
    have : ev F1 (n + 15) σ st (.var 2) = some (.str (S w), st) := by simp only [ev, h2, Option.map_some]
    rw [this]; dsimp only [Option.bind_some]
    rw [cps_items]; dsimp only [Option.bind_some]
    rw [show Nat.ble (w.map ch).length lid = true from Nat.ble_eq.mpr (by simp [lid]; omega)]
    dsimp only
    rw [swap_go (n + 5) w [] hc]; rfl
  have u := ev_me1 (m := .join) (d := .str ⟨#[]⟩) e
  rw [join_ok (by simpa using hw)] at u
  have t : cmpP st .Eq (.str (S (w.map swp))) (.str (S (w.map swp))) = some true := by
    show some ((S (w.map swp) : Str) == S (w.map swp)) = some true
    simp
  have v : ev F1 (n + 18) σ st (.var 3) = some (.str (S (w.map swp)), st) := by simp only [ev, h3, Option.map_some]
  rw [exec1.eq_def]; dsimp only
  rw [ev.eq_def]; dsimp only
  rw [v]; dsimp only [Option.bind_some]
  have u : ev F1 (n + 18) σ st _ = _ := u
  rw [u]; dsimp only [Option.bind_some, Option.map_some]
  rw [t]; rfl
theorem wordOk_of {m : Nat} {w : List Nat} (h : wordOk m w = true) : turnN m w = some (w.map swp) := by
  unfold wordOk at h
  cases ht : turnN m w with
  | none => rw [ht] at h; cases h
  | some v => rw [ht] at h; rw [eqSw_ok v w h]
theorem law_run (n : Nat) (hn : ns.length ≤ 63) : ∃ σ', run F1 (n + 100) [(0, scD ns)] [] pf7.body = some (.ret (.bool true), σ', []) := by
  have main : ∀ size m : Nat, 3 * size = m + 1 → m ≤ 11 → allW size (wordOk (m + 1)) m [97] = true → (if ns.length < 10 then (3 : Int) else 4) = size → ∃ σ', run F1 (n + 100) [(0, scD ns)] [] pf7.body = some (.ret (.bool true), σ', []) := by
    intro size m hs hm hall hsz
    obtain ⟨w, hw, hP, hl, hc⟩ := word_ok (n + 56) m size hn hm hs hall []
    have ht := wordOk_of hP
    have l1 := fun st => lenL st (ns.map .int) (by simp [lid]; omega)
    simp only [List.length_map] at l1
    have a1 : exec1 F1 (n + 99) [(0, scD ns)] [] (.asg 1 (.ite (.cmp1 .Lt (.fn .len [(.var 0)]) (.lit (.int 10))) (.lit (.int 3)) (.lit (.int 4)))) = some (.next, [(0, scD ns), (1, .int size)], []) := by
      rw [← hsz]
      by_cases h : ns.length < 10
      · simp [exec1, ev, evs, evT, Vars.get, Vars.set, l1, cLt, h, show (ns.length : Int) < 10 by omega]
      · simp [exec1, ev, evs, evT, Vars.get, Vars.set, l1, cLt, h, show ¬ (ns.length : Int) < 10 by omega]
    have hw : callF F1 (n + 96) 2 [scD ns, .int size] [] = _ := hw
    have a2 : exec1 F1 (n + 98) [(0, scD ns), (1, .int size)] [] (.asg 2 (.call 2 [(.var 0), (.var 1)])) = some (.next, [(0, scD ns), (1, .int size), (2, .str (S w))], []) := by
      simp only [exec1, ev, evs, Vars.get, Nat.beq, Option.map_some, Option.bind_some, hw, Vars.set]
    have a3 : exec1 F1 (n + 97) [(0, scD ns), (1, .int size), (2, .str (S w))] [] (.asg 3 (.var 2)) = some (.next, [(0, scD ns), (1, .int size), (2, .str (S w)), (3, .str (S w))], []) := by
      simp only [exec1, ev, Vars.get, Nat.beq, Option.map_some, Vars.set]
    obtain ⟨σ', g1, g2, g3⟩ := law_go (st := []) (ns := ns) (n + 15) (m + 1) 0 w [(0, scD ns), (1, .int size), (2, .str (S w)), (3, .str (S w))] ht (by omega) rfl rfl
    have l2 := fun st => rngN st (m + 1) (by omega)
    have l3 := its_n (m + 1) (by omega)
    have mu : binP .Mult (.int 3) (.int size) = some (.int (m + 1 : Nat)) := by
      rw [mul3 (by omega)]
      exact congrArg (fun x => some (D.int x)) (by omega)
    have a4 : exec1 F1 (n + 96) [(0, scD ns), (1, .int size), (2, .str (S w)), (3, .str (S w))] [] (.for1 4 (.fn .range1 [(.bin .Mult (.lit (.int 3)) (.var 1))]) b7) = some (.next, σ', []) := by
      rw [exec1.eq_def]; dsimp only
      have : ev F1 (n + 95) [(0, scD ns), (1, .int size), (2, .str (S w)), (3, .str (S w))] [] (.fn .range1 [(.bin .Mult (.lit (.int 3)) (.var 1))]) = some (.rng 0 (m + 1 : Nat) 1, []) := by
        simp only [ev, evs, Vars.get, Nat.beq, Option.map_some, Option.bind_some, mu, l2]
      rw [this, Option.bind_some, l3, Option.bind_some]
      exact g1
    have a5 := lC_ok (st := []) (σ := σ') (n + 75) (by omega : w.length ≤ 100) hc (by rw [g3]; rfl) g2
    refine ⟨σ', ?_⟩
    rw [pf7_body]
    rw [run, a1]; dsimp only [Option.bind_some]
    rw [run, a2]; dsimp only [Option.bind_some]
    rw [run, a3]; dsimp only [Option.bind_some]
    rw [run, a4]; dsimp only [Option.bind_some]
    have a5 : exec1 F1 (n + 95) σ' [] lC = _ := a5
    rw [run, a5]; dsimp only [Option.bind_some]
  by_cases h : ns.length < 10
  · exact main 3 8 rfl (by decide) w3 (by rw [if_pos h]; rfl)
  · exact main 4 11 rfl (by decide) w4 (by rw [if_neg h]; rfl)
end
end Mine
end
section
open PySem PySem.W PySem.Calls PyProof.Rows
set_option Elab.async false
set_option maxRecDepth 100000
set_option maxHeartbeats 4000000
namespace Mine
theorem wellAll_ints {P : Params} {h : Heap} : ∀ {vs : List Value} {ns : List Int} (R : Addr → Obj → Prop) (ρ : List Addr), WellAll P h vs (ns.map .int) → Lays R ρ vs (ns.map .int)
  | vs, [], R, ρ, x => by
    cases x; exact .nil
  | vs, n :: ns, R, ρ, x => by
    cases x with
    | cons a b =>
      cases a
      exact .cons (.int _ _) (wellAll_ints R ρ b)
theorem ofPyInts (ns : List Int) : ofPy (PyData.list (ns.map .int)) = .list (ns.map .int) := by
  unfold ofPy; rw [ofPys_ints]
theorem rm_top (env : Env) : Rm 300 (callerA.deeper env) := by
  refine Rm.deep (n := 300) ⟨rfl, ?_, ?_⟩
  · show 1 + claimMargin + (300 + 1) < 900
    decide
  · show 4 + 10 * (300 + 1) < 9000
    decide
theorem law_main {w : World} {s₁ : Shared} {h₁ : Heap} {tk : Nat} {name : Str} {scope : Scope} {fa a : Addr} {cd : Value} {ns : List Int} {body : List Stmt} {Q : Flow → Shared → Prop} {E : Value → Shared → Prop}
    (KX : (KK w.params).In s₁.heap) (hb : ∃ mb, s₁.heap.Ns builtinsNs mb ∧ ∀ x : Str, x ≠ "__name__" → mb x = bootBuiltins x) (hlim : s₁.heap.NoLimit)
    (F : Fr s₁.heap s₁.heap.objs.size h₁ (fun x => List.lookup x [(("script" : Str), Value.ref a)]))
    (hw : Well w.params s₁.heap (.ref a) (ofPy (PyData.list (ns.map .int)))) (hn : ns.length ≤ 63)
    (hkd : scope.kind = .function) (hst : statOk scope.names ["script"] [0] sc7 = true) (hsl : scope.names.lookup ("script" : Str) = some .local) (hloc : sc7.all (fun p => scope.names.lookup p.1 == some .local) = true) (hck : chkB gn 60 scope.names sc7 body pf7.body = true)
    (hQ : ∀ s', (∀ b o, s₁.heap.get? b = some o → s'.heap.get? b = some o) → s'.os = s₁.os → s'.gens = s₁.gens → Q (.ret (.bool true)) s') :
    wpAny (model PySem.Challenge.pw_sn0007_01 w) (callerA.deeper (envOf name scope s₁.heap.objs.size fa cd)) (execs body (envOf name scope s₁.heap.objs.size fa cd)) Q E { s₁ with heap := h₁, toks := tk } := by
  obtain ⟨σ', hrun⟩ := law_run (ns := ns) 0 hn
  have T := tb (c := { prog := PySem.Challenge.pw_sn0007_01, w := w, K := KK w.params, C := 125, s₀ := s₁ }) w.params rfl rfl rfl ⟨KX, hb, hlim⟩
  have B := (sound T 100).B 60 scope.names sc7 body pf7.body hck (callerA.deeper (envOf name scope s₁.heap.objs.size fa cd)) _ _ _ _ _ (rm_top _) hrun
  generalize hL : s₁.heap.objs.size = L at *
  have hLn : s₁.heap.get? L = none := by rw [← hL]; exact size_none _
  unfold statOk at hst
  simp only [Bool.and_eq_true, decide_eq_true_eq, List.all_eq_true, Bool.or_eq_true, Bool.not_eq_true', beq_eq_false_iff_ne, ne_eq, beq_iff_eq] at hst hloc
  obtain ⟨_, h7⟩ := hst
  have FM : Fm (kdN scope.names) sc7 (envOf name scope L fa cd) [L] h₁ := by
    refine ⟨rfl, .head _, ⟨_, F.ns⟩, rfl, rfl, hkd, fun x cc e => by simp [envOf] at e, fun x y cc e => by simp [envOf] at e, fun p hp => .inl (hloc p hp), fun p hp q hq e => ?_, fun p hp q hq e => ?_⟩
    · rcases (h7 p hp q hq).1 with z | z
      · exact absurd e z
      · exact z
    · rcases (h7 p hp q hq).2 with z | z
      · exact absurd e z
      · exact z
  have OW : Own (envOf name scope L fa cd) [L] [L] := ⟨.head _, fun x cc e => by simp [envOf] at e, fun q h => h⟩
  have WF : Wf { prog := PySem.Challenge.pw_sn0007_01, w := w, K := KK w.params, C := 125, s₀ := s₁ } [L] [] [] { s₁ with heap := h₁, toks := tk } := by
    refine ⟨⟨h₁, tk, rfl⟩, F.keep, fun q hq => ?_, fun q hq => ?_, rfl, fun i q mo e => by simp at e, List.nodup_nil, fun q hq => by cases hq⟩
    · rcases hq with hq | hq
      · rw [List.mem_singleton.mp hq]
        obtain ⟨o, _, _, e, _⟩ := F.ns
        exact ⟨o, e⟩
      · cases hq
    · rcases hq with hq | hq
      · rw [List.mem_singleton.mp hq]; exact hLn
      · cases hq
  rw [ofPyInts] at hw
  obtain ⟨vs, ho, hws⟩ : ∃ vs, s₁.heap.get? a = some (lstObj vs 0) ∧ WellAll w.params s₁.heap vs (ns.map .int) := by
    cases hw with
    | list h1 h2 => exact ⟨_, h1, h2⟩
  have hLa : a ≠ L := fun e => by rw [e, hLn] at ho; cases ho
  have VR : Vr sc7 (envOf name scope L fa cd) [L] [] [(0, scD ns)] h₁ := by
    intro p hp d hd
    have h0 : p.2 = 0 ∧ d = scD ns := by
      unfold Vars.get at hd
      cases e : Nat.beq 0 p.2 with
      | true => rw [e] at hd; cases hd; exact ⟨(Nat.eq_of_beq_eq_true e).symm, rfl⟩
      | false => rw [e] at hd; cases hd
    obtain ⟨h1, rfl⟩ := h0
    have hs : p.1 = "script" := by
      have hp' := hp
      simp only [sc7, List.mem_cons, List.not_mem_nil, or_false] at hp'
      rcases hp' with rfl | rfl | rfl | rfl | rfl
      · rfl
      · cases h1
      · cases h1
      · cases h1
      · cases h1
    refine ⟨.ref a, .inl ⟨?_, _, F.ns, ?_⟩, .lst (n := 0) (vs := vs) ⟨F.keep _ _ ho, ?_⟩ (wellAll_ints _ _ hws)⟩
    · rw [hs]; exact hsl
    · rw [hs]
      show List.lookup ("script" : Str) [(("script" : Str), Value.ref a)] = _
      rw [List.lookup_cons, show (("script" : Str) == "script") = true by decide]
    · rw [List.append_nil]
      exact fun q => hLa (List.mem_singleton.mp q)
  refine wpAny_mono (B (envOf name scope L fa cd) [L] [L] [] { s₁ with heap := h₁, toks := tk } FM OW WF VR Q fun f s' ρ' W' _ _ _ hf => ?_) (fun _ _ q => q) fun _ _ q => q.elim
  obtain ⟨v, rfl, hl⟩ := hf
  cases hl
  obtain ⟨h', tk', rfl⟩ := W'.same
  exact hQ _ W'.base rfl rfl
end Mine
end
section
open PySem PySem.W PySem.Calls PyProof.Rows
set_option Elab.async false
set_option maxRecDepth 100000
set_option maxHeartbeats 8000000
local macro_rules | `(tactic| k_qdec) => `(tactic| decide +kernel)
theorem PySem.Challenge.cw_sn0007_01_holds : PySem.Challenge.rw_sn0007_01.Holds :=
  Mine.hd (by
  intro w s₀ s₁ mg mb G Y fa o pm cd doc dV kV ho hd hcd hD hmg hg args vals as hpre hlay hrd hwl hlo
  have KX := kIn_of Y
  k_behind G ho hd hcd hD hmg hpre hlay hrd hwl hlo cd
  rename Fr _ _ _ _ => FF
  rename Well _ _ _ _ => WW
  rename Top _ _ _ _ _ _ => TT
  rename ¬ (_ : Int) < _ => hc
  refine Mine.law_main KX ⟨_, TT.b, TT.builtins⟩ TT.nolimit FF WW (by omega) (by kernel_rfl) (by kernel_rfl) (by kernel_rfl) (by kernel_rfl) (by kernel_rfl) fun s' k1 k2 k3 => ?_
  exact ⟨.inl ⟨.bool true, .bool true, [], rfl, fun _ => rfl, .bool true, by kernel_rfl, fun _ => ⟨List.nodup_nil, fun a ha => by cases ha⟩⟩, k1, k2, k3.trans hg⟩)
end
