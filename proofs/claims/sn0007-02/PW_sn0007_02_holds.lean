import PyProof.Rows.All
import Wide.All
import OpenK.AllK
import Wide.FinOn
import PyProof.WalksPairs
import PyProof.GenCompT
import PyProof.Rows.JoinGen
import KE.KIntText
import KE.KSortAsk
import KE.KSortTup
import KE.KFmtOwn
import KE.KCallOwn
import PyProof.StrLawsReplace
import PyProof.StrLawsTight
import Lean
import PySem.Challenge.RW_sn0007_02
set_option Elab.async false
namespace Mine.Internal
theorem nng {G : Prop} (h : ¬¬G) : G := Classical.byContradiction h
end Mine.Internal
section
open PySem PySem.W PySem.Calls PyProof.Rows
set_option Elab.async false
namespace Mine.Internal

theorem bad {α : Type} {x : α} {C : Prop} (h : none = some x) : C := nomatch h
noncomputable def gd {α : Type} (o : Option α) (f : α → Bool) : Bool := match o with | some x => f x | none => false
theorem gd_ok {α : Type} {o : Option α} {f : α → Bool} (h : gd o f = true) : ∃ x, o = some x ∧ f x = true := by
  cases o with
  | none => exact Bool.noConfusion h
  | some x => exact ⟨x, rfl, h⟩
theorem bd_ok {α β : Type} {o : Option α} {f : α → Option β} {b : β} (h : o.bind f = some b) : ∃ x, o = some x ∧ f x = some b := by
  cases o with
  | none => exact bad h
  | some x => exact ⟨x, rfl, h⟩
theorem mp_ok {α β : Type} {o : Option α} {f : α → β} {b : β} (h : o.map f = some b) : ∃ x, o = some x ∧ f x = b := by
  cases o with
  | none => exact bad h
  | some x => exact ⟨x, rfl, Option.some.inj h⟩
theorem bd_el {α β : Type} {o : Option α} {f : α → Option β} {b : β} {P : Prop} (h : o.bind f = some b) (k : ∀ x, o = some x → f x = some b → P) : P := (bd_ok h).elim fun x q => k x q.1 q.2
theorem gd_el {α : Type} {o : Option α} {f : α → Bool} {P : Prop} (h : gd o f = true) (k : ∀ x, o = some x → f x = true → P) : P := (gd_ok h).elim fun x q => k x q.1 q.2
theorem pr_el {β γ : Type} {P : β → γ → Prop} {x : β × γ} {b : β} {c : γ} (h : some x = some (b, c)) (k : P x.1 x.2) : P b c := Eq.rec (motive := fun y _ => P y.1 y.2) k (Option.some.inj h)
theorem pr3_el {β γ δ : Type} {P : β → γ → δ → Prop} {x : β × γ × δ} {b : β} {c : γ} {d : δ} (h : some x = some (b, c, d)) (k : P x.1 x.2.1 x.2.2) : P b c d := Eq.rec (motive := fun y _ => P y.1 y.2.1 y.2.2) k (Option.some.inj h)
theorem mp_el {α β γ : Type} {P : β → γ → Prop} {o : Option α} {f : α → β × γ} {b : β} {c : γ} (h : o.map f = some (b, c)) (k : ∀ x, o = some x → P (f x).1 (f x).2) : P b c := (mp_ok h).elim fun x q => pr_el (congrArg some q.2) (k x q.1)
theorem mp3_el {α β γ δ : Type} {P : β → γ → δ → Prop} {o : Option α} {f : α → β × γ × δ} {b : β} {c : γ} {d : δ} (h : o.map f = some (b, c, d)) (k : ∀ x, o = some x → P (f x).1 (f x).2.1 (f x).2.2) : P b c d := (mp_ok h).elim fun x q => pr3_el (congrArg some q.2) (k x q.1)
theorem mq_el {α β : Type} {P : β → Prop} {o : Option α} {f : α → β} {b : β} (h : o.map f = some b) (k : ∀ x, o = some x → P (f x)) : P b := (mp_ok h).elim fun x q => Eq.rec (motive := fun y _ => P y) (k x q.1) q.2
noncomputable def orP {α : Type} (a b : Option α) : Option α := match a with | some x => some x | none => b
theorem orP_ok {α : Type} {a b : Option α} {x : α} (h : orP a b = some x) : a = some x ∨ b = some x := by
  cases a with
  | none => exact .inr h
  | some y => exact .inl h
theorem if_ok {p : Prop} [Decidable p] {α : Type} {o : Option α} {b : α} (h : (if p then o else none) = some b) : p ∧ o = some b := by
  by_cases hp : p
  · rw [if_pos hp] at h; exact ⟨hp, h⟩
  · rw [if_neg hp] at h; exact bad h
theorem ifn_ok {p : Prop} [Decidable p] {α : Type} {o : Option α} {b : α} (h : (if p then none else o) = some b) : ¬ p ∧ o = some b := by
  by_cases hp : p
  · rw [if_pos hp] at h; exact bad h
  · rw [if_neg hp] at h; exact ⟨hp, h⟩
theorem an2 {a b : Bool} (h : (a && b) = true) : a = true ∧ b = true := by
  cases a with
  | false => exact Bool.noConfusion h
  | true => exact ⟨rfl, h⟩
theorem an3 {a b c : Bool} (h : (a && b && c) = true) : a = true ∧ b = true ∧ c = true := ⟨(an2 (an2 h).1).1, (an2 (an2 h).1).2, (an2 h).2⟩
theorem an4 {a b c d : Bool} (h : (a && b && c && d) = true) : a = true ∧ b = true ∧ c = true ∧ d = true := ⟨(an2 (an3 h).1).1, (an2 (an3 h).1).2, (an3 h).2⟩
theorem an5 {a b c d e : Bool} (h : (a && b && c && d && e) = true) : a = true ∧ b = true ∧ c = true ∧ d = true ∧ e = true := ⟨(an2 (an4 h).1).1, (an2 (an4 h).1).2, (an4 h).2⟩
theorem an6 {a b c d e f : Bool} (h : (a && b && c && d && e && f) = true) : a = true ∧ b = true ∧ c = true ∧ d = true ∧ e = true ∧ f = true := ⟨(an2 (an5 h).1).1, (an2 (an5 h).1).2, (an5 h).2⟩
theorem an7 {a b c d e f x : Bool} (h : (a && b && c && d && e && f && x) = true) : a = true ∧ b = true ∧ c = true ∧ d = true ∧ e = true ∧ f = true ∧ x = true := ⟨(an2 (an6 h).1).1, (an2 (an6 h).1).2, (an6 h).2⟩
theorem an2_el {a b : Bool} {P : Prop} (h : (a && b) = true) (k : a = true → b = true → P) : P := k (an2 h).1 (an2 h).2
theorem an3_el {a b c : Bool} {P : Prop} (h : (a && b && c) = true) (k : a = true → b = true → c = true → P) : P := an2_el h fun h => an2_el h k
theorem an4_el {a b c d : Bool} {P : Prop} (h : (a && b && c && d) = true) (k : a = true → b = true → c = true → d = true → P) : P := an2_el h fun h => an3_el h k
theorem an5_el {a b c d e : Bool} {P : Prop} (h : (a && b && c && d && e) = true) (k : a = true → b = true → c = true → d = true → e = true → P) : P := an2_el h fun h => an4_el h k
theorem an6_el {a b c d e f : Bool} {P : Prop} (h : (a && b && c && d && e && f) = true) (k : a = true → b = true → c = true → d = true → e = true → f = true → P) : P := an2_el h fun h => an5_el h k
theorem an7_el {a b c d e f x : Bool} {P : Prop} (h : (a && b && c && d && e && f && x) = true) (k : a = true → b = true → c = true → d = true → e = true → f = true → x = true → P) : P := an2_el h fun h => an6_el h k
theorem if_el {p : Prop} [Decidable p] {α : Type} {o : Option α} {b : α} {P : Prop} (h : (if p then o else none) = some b) (k : p → o = some b → P) : P := k (if_ok h).1 (if_ok h).2
noncomputable def un1 {α : Type} (l : List α) : Option α := match l with | [a] => some a | _ => none
theorem un1_ok {α : Type} {l : List α} {a : α} (h : un1 l = some a) : l = [a] := by
  cases l with
  | nil => exact bad h
  | cons b r =>
    cases r with
    | nil => exact congrArg (fun x => [x]) (Option.some.inj h)
    | cons => exact bad h
noncomputable def un2 {α : Type} (l : List α) : Option (α × α) := match l with | [a, b] => some (a, b) | _ => none
theorem un2_ok {α : Type} {l : List α} {a : α × α} (h : un2 l = some a) : l = [a.1, a.2] := by
  cases l with
  | nil => exact bad h
  | cons b r =>
    cases r with
    | nil => exact bad h
    | cons c r =>
      cases r with
      | nil => exact congrArg (fun x : α × α => [x.1, x.2]) (Option.some.inj h)
      | cons => exact bad h
noncomputable def un3 {α : Type} (l : List α) : Option (α × α × α) := match l with | a :: r => (un2 r).map fun q => (a, q) | _ => none
theorem un3_ok {α : Type} {l : List α} {a : α × α × α} (h : un3 l = some a) : l = [a.1, a.2.1, a.2.2] := by
  cases l with
  | nil => exact bad h
  | cons b r =>
    obtain ⟨q, h1, h2⟩ := mp_ok h
    cases h2
    rw [un2_ok h1]

inductive D where
  | none
  | bool (b : Bool)
  | int (i : Int)
  | flt (b : UInt64)
  | str (x : Str)
  | tup (l : List D)
  | lst (l : List D)
  | rng (a b c : Int)
  | ref (i : Nat)
  deriving Inhabited

inductive MO where
  | ml (l : List D)
  | acc (l : List D)
  | tab
  deriving Inhabited
noncomputable abbrev Store := List MO
noncomputable abbrev Vars := List (Nat × D)

noncomputable def Vars.get : Vars → Nat → Option D
  | [], _ => .none
  | (j, d) :: r, i => match Nat.beq j i with | true => some d | false => Vars.get r i
noncomputable def Vars.set : Vars → Nat → D → Vars
  | [], i, d => [(i, d)]
  | (j, e) :: r, i, d => match Nat.beq j i with | true => (i, d) :: r | false => (j, e) :: Vars.set r i d

noncomputable def dB (x : D) : Option (Bool) := D.casesOn (motive_1 := fun _ => Option (Bool)) x .none some (fun _ => .none) (fun _ => .none) (fun _ => .none) (fun _ => .none) (fun _ => .none) (fun _ _ _ => .none) (fun _ => .none)
theorem dB_ok {x : D} {a : Bool} : dB x = some a → x = .bool a := D.casesOn (motive_1 := fun x => dB x = some a → x = .bool a) x (fun  h => bad h) (fun _ h => congrArg D.bool (Option.some.inj h)) (fun _ h => bad h) (fun _ h => bad h) (fun _ h => bad h) (fun _ h => bad h) (fun _ h => bad h) (fun _ _ _ h => bad h) (fun _ h => bad h)
noncomputable def dI (x : D) : Option (Int) := D.casesOn (motive_1 := fun _ => Option (Int)) x .none (fun _ => .none) some (fun _ => .none) (fun _ => .none) (fun _ => .none) (fun _ => .none) (fun _ _ _ => .none) (fun _ => .none)
theorem dI_ok {x : D} {a : Int} : dI x = some a → x = .int a := D.casesOn (motive_1 := fun x => dI x = some a → x = .int a) x (fun  h => bad h) (fun _ h => bad h) (fun _ h => congrArg D.int (Option.some.inj h)) (fun _ h => bad h) (fun _ h => bad h) (fun _ h => bad h) (fun _ h => bad h) (fun _ _ _ h => bad h) (fun _ h => bad h)
noncomputable def dF (x : D) : Option (UInt64) := D.casesOn (motive_1 := fun _ => Option (UInt64)) x .none (fun _ => .none) (fun _ => .none) some (fun _ => .none) (fun _ => .none) (fun _ => .none) (fun _ _ _ => .none) (fun _ => .none)
theorem dF_ok {x : D} {a : UInt64} : dF x = some a → x = .flt a := D.casesOn (motive_1 := fun x => dF x = some a → x = .flt a) x (fun  h => bad h) (fun _ h => bad h) (fun _ h => bad h) (fun _ h => congrArg D.flt (Option.some.inj h)) (fun _ h => bad h) (fun _ h => bad h) (fun _ h => bad h) (fun _ _ _ h => bad h) (fun _ h => bad h)
noncomputable def dS (x : D) : Option (Str) := D.casesOn (motive_1 := fun _ => Option (Str)) x .none (fun _ => .none) (fun _ => .none) (fun _ => .none) some (fun _ => .none) (fun _ => .none) (fun _ _ _ => .none) (fun _ => .none)
theorem dS_ok {x : D} {a : Str} : dS x = some a → x = .str a := D.casesOn (motive_1 := fun x => dS x = some a → x = .str a) x (fun  h => bad h) (fun _ h => bad h) (fun _ h => bad h) (fun _ h => bad h) (fun _ h => congrArg D.str (Option.some.inj h)) (fun _ h => bad h) (fun _ h => bad h) (fun _ _ _ h => bad h) (fun _ h => bad h)
noncomputable def dT (x : D) : Option (List D) := D.casesOn (motive_1 := fun _ => Option (List D)) x .none (fun _ => .none) (fun _ => .none) (fun _ => .none) (fun _ => .none) some (fun _ => .none) (fun _ _ _ => .none) (fun _ => .none)
theorem dT_ok {x : D} {a : List D} : dT x = some a → x = .tup a := D.casesOn (motive_1 := fun x => dT x = some a → x = .tup a) x (fun  h => bad h) (fun _ h => bad h) (fun _ h => bad h) (fun _ h => bad h) (fun _ h => bad h) (fun _ h => congrArg D.tup (Option.some.inj h)) (fun _ h => bad h) (fun _ _ _ h => bad h) (fun _ h => bad h)
noncomputable def dL (x : D) : Option (List D) := D.casesOn (motive_1 := fun _ => Option (List D)) x .none (fun _ => .none) (fun _ => .none) (fun _ => .none) (fun _ => .none) (fun _ => .none) some (fun _ _ _ => .none) (fun _ => .none)
theorem dL_ok {x : D} {a : List D} : dL x = some a → x = .lst a := D.casesOn (motive_1 := fun x => dL x = some a → x = .lst a) x (fun  h => bad h) (fun _ h => bad h) (fun _ h => bad h) (fun _ h => bad h) (fun _ h => bad h) (fun _ h => bad h) (fun _ h => congrArg D.lst (Option.some.inj h)) (fun _ _ _ h => bad h) (fun _ h => bad h)
noncomputable def dR (x : D) : Option (Nat) := D.casesOn (motive_1 := fun _ => Option (Nat)) x .none (fun _ => .none) (fun _ => .none) (fun _ => .none) (fun _ => .none) (fun _ => .none) (fun _ => .none) (fun _ _ _ => .none) some
theorem dR_ok {x : D} {a : Nat} : dR x = some a → x = .ref a := D.casesOn (motive_1 := fun x => dR x = some a → x = .ref a) x (fun  h => bad h) (fun _ h => bad h) (fun _ h => bad h) (fun _ h => bad h) (fun _ h => bad h) (fun _ h => bad h) (fun _ h => bad h) (fun _ _ _ h => bad h) (fun _ h => congrArg D.ref (Option.some.inj h))
noncomputable def dMl (m : MO) : Option (List D) := MO.casesOn m some (fun _ => none) none
theorem dMl_ok {m : MO} {l} : dMl m = some l → m = .ml l := MO.casesOn (motive := fun m => dMl m = some l → m = .ml l) m (fun _ h => congrArg MO.ml (Option.some.inj h)) (fun _ h => bad h) (fun h => bad h)
noncomputable def dAcc (m : MO) : Option (List D) := MO.casesOn m (fun _ => none) some none
theorem dAcc_ok {m : MO} {l} : dAcc m = some l → m = .acc l := MO.casesOn (motive := fun m => dAcc m = some l → m = .acc l) m (fun _ h => bad h) (fun _ h => congrArg MO.acc (Option.some.inj h)) (fun h => bad h)
noncomputable def getMl (st : Store) (d : D) : Option (Nat × List D) := (dR d).bind fun i => (st[i]?).bind fun m => (dMl m).map fun l => (i, l)
theorem getMl_ok {st : Store} {d : D} {q} (h : getMl st d = some q) : d = .ref q.1 ∧ st[q.1]? = some (.ml q.2) := by
  obtain ⟨i, h1, h⟩ := bd_ok h
  obtain ⟨m, h2, h⟩ := bd_ok h
  obtain ⟨l, h3, h⟩ := mp_ok h
  cases h
  exact ⟨dR_ok h1, h2.trans (congrArg some (dMl_ok h3))⟩
noncomputable def getAcc (st : Store) (d : D) : Option (Nat × List D) := (dR d).bind fun i => (st[i]?).bind fun m => (dAcc m).map fun l => (i, l)
theorem getAcc_ok {st : Store} {d : D} {q} (h : getAcc st d = some q) : d = .ref q.1 ∧ st[q.1]? = some (.acc q.2) := by
  obtain ⟨i, h1, h⟩ := bd_ok h
  obtain ⟨m, h2, h⟩ := bd_ok h
  obtain ⟨l, h3, h⟩ := mp_ok h
  cases h
  exact ⟨dR_ok h1, h2.trans (congrArg some (dAcc_ok h3))⟩
mutual
noncomputable def D.refsLt (n : Nat) : D → Bool
  | .tup l => D.refsLts n l
  | .lst l => D.refsLts n l
  | .ref i => Nat.blt i n
  | _ => true
noncomputable def D.refsLts (n : Nat) : List D → Bool
  | [] => true
  | d :: r => D.refsLt n d && D.refsLts n r
end

noncomputable def frzL (f : D → Option D) : List D → Option (List D)
  | [] => some []
  | d :: r => (f d).bind fun x => (frzL f r).map (x :: ·)
noncomputable def frz (st : Store) : Nat → D → Option D
  | 0, d => if D.refsLt 0 d = true then some d else .none
  | n + 1, d => orP (if D.refsLt 0 d = true then some d else .none) (orP ((getMl st d).bind fun q => (frzL (frz st n) q.2).map .lst)
      (orP ((dT d).bind fun l => (frzL (frz st n) l).map .tup) ((dL d).bind fun l => (frzL (frz st n) l).map .lst)))

inductive Fn where
  | len | minL | maxL | max3 | min3 | min2 | max2 | intF | sumL | range1 | range3 | strI | intS | sorted
  deriving DecidableEq
inductive Me where
  | count | index | join | split
  deriving DecidableEq
inductive Tg where
  | one (x : Nat)
  | tup (xs : List Nat)

inductive PE where
  | lit (d : D)
  | var (i : Nat)
  | bin (op : Operator) (a b : PE)
  | neg (a : PE)
  | cmp1 (op : CmpOp) (a b : PE)
  | cmp2 (o₁ o₂ : CmpOp) (a b c : PE)
  | band (l : List PE)
  | bor (l : List PE)
  | bnot (a : PE)
  | ite (c a b : PE)
  | idx (a i : PE)
  | slc (a : PE) (lo hi : Option PE)
  | tup (l : List PE)
  | lst (l : List PE)
  | comp (e : PE) (x : Tg) (it : PE) (c : Option PE)
  | fn (f : Fn) (l : List PE)
  | me (m : Me) (o : PE) (l : List PE)
  | repl (o : PE) (a b : Str)
  | lindex (o a : PE)
  | sub (k : Nat) (r s : PE)
  | call (f : Nat) (l : List PE)
  | acc0
  | meth (f : Nat) (o : PE) (l : List PE)
  | accAppend (o a : PE)
  | accPop (o : PE)
  | accLen (o : PE)
  | accStr (o : PE)
  | popFrom (o : PE) (i : Option PE)
  | mlAppend (o a : PE)
inductive PS where
  | asg (i : Nat) (e : PE)
  | asgM (i : Nat) (e : PE)
  | asgT (is : List Nat) (e : PE)
  | seti (i : Nat) (k e : PE)
  | ifs (c : PE) (a b : List PS)
  | for1 (i : Tg) (it : PE) (b : List PS)
  | whl (c : PE) (b : List PS)
  | brk
  | ret (e : PE)
  | ex (e : PE)

structure PF where
  params : List Nat
  body : List PS
  opn : Bool := false

noncomputable def asList (st : Store) (d : D) : Option (List D) := orP (dL d) ((getMl st d).map (·.2))
noncomputable def lid : Nat := 1048576
noncomputable def rngItems (a b c : Int) : Option (List D) := if (c = 1 ∨ c = -1) ∧ Builtin.Range.small a b c = true then some ((List.range (Builtin.Range.rangeSize a b c).toNat).map fun i => .int (a + (i : Nat) * c)) else .none
noncomputable def items (d : D) : Option (List D) := D.casesOn (motive_1 := fun _ => Option (List D)) d .none (fun _ => .none) (fun _ => .none) (fun _ => .none) (fun x => some (x.cps.toList.map fun c => .str ⟨#[c]⟩)) some some rngItems (fun _ => .none)
noncomputable def Tg.isOne (t : Tg) : Bool := match t with | .one _ => true | .tup _ => false
noncomputable def srcOf (tg : Tg) (d : D) : Option (Store → Nat → Option (Option D)) := orP ((dL d).map fun l _ j => some l[j]?)
  (if tg.isOne = true then orP ((dR d).map fun r st j => (getMl st (.ref r)).map fun q => q.2[j]?) ((items d).map fun ds _ j => some ds[j]?) else .none)

noncomputable def two {α β γ : Type} (p : D → Option α) (q : D → Option β) (f : α → β → Option γ) (x y : D) : Option γ := (p x).bind fun a => (q y).bind fun b => f a b
theorem two_ok {α β γ : Type} {p : D → Option α} {q : D → Option β} {f : α → β → Option γ} {x y : D} {d : γ} (h : two p q f x y = some d) : ∃ a b, p x = some a ∧ q y = some b ∧ f a b = some d := by
  obtain ⟨a, h1, h⟩ := bd_ok h
  obtain ⟨b, h2, h⟩ := bd_ok h
  exact ⟨a, b, h1, h2, h⟩
noncomputable def addP (x y : D) : Option D := orP (two dI dI (fun a b => some (.int (a + b))) x y) (orP (two dF dF (fun a b => some (.flt (Float64.add a b))) x y)
  (orP (two dS dS (fun a b => if a.length + b.length ≤ lid then some (.str (a ++ b)) else .none) x y) (two dL dL (fun a b => if a.length + b.length ≤ lid then some (.lst (a ++ b)) else .none) x y)))
noncomputable def sbP (x y : D) : Option D := orP (two dI dI (fun a b => some (.int (a - b))) x y) (two dF dF (fun a b => some (.flt (Float64.sub a b))) x y)
noncomputable def mulP (x y : D) : Option D := orP (two dI dI (fun a b => if a.natAbs < 2 ^ 60 ∧ b.natAbs < 2 ^ 60 then some (.int (a * b)) else .none) x y)
  (orP (two dF dI (fun a b => if Float64.isInf (Float64.ofInt b) = true then .none else some (.flt (Float64.mul a (Float64.ofInt b)))) x y)
  (two dS dI (fun a n => if a.length ≤ 16 ∧ n.natAbs ≤ lid then some (.str (Txt.mul a n)) else .none) x y))
noncomputable def divP (x y : D) : Option D := orP (two dF dF (fun a b => if Float64.isZero b = true then .none else some (.flt (Float64.div a b))) x y)
  (two dI dF (fun a b => if Float64.isInf (Float64.ofInt a) = true then .none else if Float64.isZero b = true then .none else some (.flt (Float64.div (Float64.ofInt a) b))) x y)
noncomputable def fdvP (x y : D) : Option D := two dI dI (fun a b => if b = 0 ∨ ¬ b.natAbs < 1073741824 then .none else some (.int (a.fdiv b))) x y
noncomputable def modP (x y : D) : Option D := orP (two dI dI (fun a b => if b = 0 then .none else some (.int (a.fmod b))) x y) (two dF dF (fun a b => if Float64.isZero b = true then .none else some (.flt (Float64.divmod a b).2)) x y)
noncomputable def powP (x y : D) : Option D := two dI dI (fun a b => if 0 ≤ b ∧ b ≤ 64 ∧ a.natAbs < 2 ^ 20 then some (.int (a ^ b.toNat)) else .none) x y
noncomputable def binP (op : Operator) (x y : D) : Option D := Operator.casesOn op (addP x y) (sbP x y) (mulP x y) .none (divP x y) (modP x y) (powP x y) .none .none .none .none .none (fdvP x y)

noncomputable def intsOf : List D → Option (List Int)
  | [] => some []
  | d :: r => (dI d).bind fun i => (intsOf r).map (i :: ·)
noncomputable def strsOf : List D → Option (List Str)
  | [] => some []
  | d :: r => (dS d).bind fun i => (strsOf r).map (i :: ·)
noncomputable def boolsOf : List D → Option (List Bool)
  | [] => some []
  | d :: r => (dB d).bind fun i => (boolsOf r).map (i :: ·)

mutual
noncomputable def D.py : D → PyData
  | .none => .none
  | .bool b => .bool b
  | .int i => .int i
  | .flt _ => .none
  | .str x => .str x
  | .tup l => .tuple (D.pys l)
  | .lst l => .list (D.pys l)
  | .rng _ _ _ => .none
  | .ref _ => .none
noncomputable def D.pys : List D → List PyData
  | [] => []
  | d :: r => D.py d :: D.pys r
end
mutual
noncomputable def D.pl : D → Bool
  | .none => true
  | .bool _ => true
  | .int _ => true
  | .flt _ => false
  | .str _ => true
  | .tup l => D.pls l
  | .lst l => D.pls l
  | .rng _ _ _ => false
  | .ref _ => false
noncomputable def D.pls : List D → Bool
  | [] => true
  | d :: r => D.pl d && D.pls r
end
noncomputable def eqOk (d : D) : Bool := D.pl d && SeqAt.shaped (D.py d)
noncomputable def seqEq (x y : D) : Option Bool := if (eqOk x && eqOk y) = true then some (PyData.eqv (D.py x) (D.py y)) else .none
noncomputable def eqP (x y : D) : Option Bool := orP (two dI dI (fun a b => some (a == b)) x y) (orP (two dS dS (fun a b => some (a == b)) x y) (orP (two dF dF (fun a b => some (Float64.cmp a b == some Ordering.eq)) x y) (seqEq x y)))
noncomputable def neP (st : Store) (x y : D) : Option Bool := orP (two dI dI (fun a b => some (a != b)) x y) (orP (two dS dS (fun a b => some (a != b)) x y) (orP (two dB dB (fun a b => some (a != b)) x y)
  (orP (two dF dF (fun a b => some (Float64.cmp a b != some Ordering.eq)) x y) ((frz st 6 x).bind fun x => (seqEq x y).map (!·)))))
noncomputable def ltP (x y : D) : Option Bool := orP (two dI dI (fun a b => some (decide (a < b))) x y) (two dF dF (fun a b => some (Float64.cmp a b == some Ordering.lt)) x y)
noncomputable def leP (x y : D) : Option Bool := orP (two dI dI (fun a b => some (decide (a ≤ b))) x y) (two dF dF (fun a b => some (Float64.cmp a b == some Ordering.lt || Float64.cmp a b == some Ordering.eq)) x y)
noncomputable def gtP (x y : D) : Option Bool := orP (two dI dI (fun a b => some (decide (a > b))) x y) (two dS dS (fun a b => some (decide (b.cps.toList < a.cps.toList))) x y)
noncomputable def geP (x y : D) : Option Bool := orP (two dI dI (fun a b => some (decide (a ≥ b))) x y) (two dS dS (fun a b => some (!decide (a.cps.toList < b.cps.toList))) x y)
noncomputable def inInt (st : Store) (x y : D) : Option Bool := (dI x).bind fun a => (asList st y).bind fun l => (intsOf l).map fun ns => ns.any (· == a)
noncomputable def inP (st : Store) (x y : D) : Option Bool := orP (two dS dS (fun a b => some (Txt.contains b a)) x y) (orP (two dB dL (fun a l => (boolsOf l).map fun bs => bs.any (· == a)) x y) (inInt st x y))
noncomputable def cmpP (st : Store) (op : CmpOp) (x y : D) : Option Bool := CmpOp.casesOn op (eqP x y) (neP st x y) (ltP x y) (leP x y) (gtP x y) (geP x y) .none .none (inP st x y) ((inInt st x y).map (!·))

noncomputable def okIdx (i : Int) : Bool := decide (0 ≤ i) && decide (i.natAbs ≤ lid)
noncomputable def idxP (st : Store) (o k : D) : Option D := (dI k).bind fun i =>
  orP ((dS o).bind fun x => if i.natAbs ≤ lid then ((seqIndex? i x.length).bind (x.cps[·]?)).map fun c => .str ⟨#[c]⟩ else .none)
  (if okIdx i = true then (orP (dT o) (asList st o)).bind fun l => l[i.toNat]? else .none)

noncomputable def partI (o : Option D) : Option (Option Int) := match o with | .none => some .none | some d => (dI d).map some
noncomputable def slcP (o : D) (lo hi : Option D) : Option D :=
  orP ((dS o).bind fun x => if x.length ≤ lid then (partI lo).bind fun a => (partI hi).bind fun b => some (.str (Txt.slice x a b)) else .none)
  ((dL o).bind fun l => if lo.isNone = true then (hi.bind dI).bind fun i => if 0 ≤ i ∧ i.toNat ≤ l.length ∧ l.length ≤ lid then some (.lst (l.take i.toNat)) else .none else .none)

noncomputable def lexB {α : Type} (lt : α → α → Bool) : List α → List α → Bool
  | _, [] => false
  | [], _ :: _ => true
  | a :: r, b :: q => lt a b || (!lt b a && lexB lt r q)
noncomputable abbrev Pr := List (List Nat)
noncomputable abbrev Key := List Pr
noncomputable def sLt (a b : List Nat) : Bool := decide (a < b)
noncomputable def prLt : Pr → Pr → Bool := lexB sLt
noncomputable def keyLt : Key → Key → Bool := lexB prLt
noncomputable def pairOf (d : D) : Option Pr := (dT d).bind fun l => (un2 l).bind fun q => two dS dS (fun a b => if (PyData.strOk a && PyData.strOk b) = true then some [a.cps.toList, b.cps.toList] else .none) q.1 q.2
noncomputable def decPair : Pr → D
  | [a, b] => .tup [.str ⟨a.toArray⟩, .str ⟨b.toArray⟩]
  | _ => .none
noncomputable def pairsOfD : List D → Option Key
  | [] => some []
  | d :: r => (pairOf d).bind fun x => (pairsOfD r).map (x :: ·)
noncomputable def keysA (l : List D) : Option (List Key) := (pairsOfD l).map (·.map ([·]))
noncomputable def decA : Key → D
  | [x] => decPair x
  | _ => .none
noncomputable def rowOf (d : D) : Option Key := (dL d).bind fun l => if l.length ≤ lid then pairsOfD l else .none
noncomputable def keysB : List D → Option (List Key)
  | [] => some []
  | d :: r => (rowOf d).bind fun x => (keysB r).map (x :: ·)
noncomputable def decB (k : Key) : D := .lst (k.map decPair)
noncomputable def insK (k : Key) : List Key → List Key
  | [] => [k]
  | j :: r => match keyLt k j with | true => k :: j :: r | false => j :: insK k r
noncomputable def sortK : List Key → List Key
  | [] => []
  | k :: r => insK k (sortK r)
noncomputable def sortD (l : List D) : Option D := if l.length < 64 then orP ((keysA l).map fun ks => .lst ((sortK ks).map decA)) ((keysB l).map fun ks => .lst ((sortK ks).map decB)) else .none

end Mine.Internal
end
section
open PySem PySem.W PySem.Calls PyProof.Rows
set_option Elab.async false
namespace Mine.Internal

noncomputable def flt (a b : UInt64) : Bool := Float64.cmp a b == some .lt

noncomputable def crlf (r : List Nat) : List Nat → List Nat
  | [] => []
  | 13 :: 10 :: t => r ++ crlf r t
  | 10 :: t => r ++ crlf r t
  | 13 :: t => r ++ crlf r t
  | c :: t => c :: crlf r t
noncomputable def dotq (r : List Nat) : Bool → List Nat → List Nat
  | _, [] => []
  | b, c :: t => if b && Nat.beq c 46 then r ++ dotq r false t else c :: dotq r (Nat.beq c 10) t

noncomputable def subP (k : Nat) (r x : Str) : Option D :=
  if x.length ≤ 4096 ∧ r.length ≤ 16 ∧ r.cps.contains 92 = false then
    some (.str (if k = 1 then ⟨(dotq r.cps.toList true x.cps.toList).toArray⟩ else ⟨(crlf r.cps.toList x.cps.toList).toArray⟩))
  else .none

noncomputable def leP' (n : Nat) (d : D) : Option D := if n ≤ lid then some d else .none
noncomputable def lenF (st : Store) (d : D) : Option D := orP ((dS d).bind fun x => leP' x.length (.int x.length)) ((asList st d).bind fun l => leP' l.length (.int l.length))
noncomputable def maxF (a b e : UInt64) : UInt64 := if flt (if flt a b = true then b else a) e = true then e else if flt a b = true then b else a
noncomputable def minF (a b e : UInt64) : UInt64 := if flt e (if flt b a = true then b else a) = true then e else if flt b a = true then b else a
noncomputable def fl3 (f : UInt64 → UInt64 → UInt64 → UInt64) (q : D × D × D) : Option D := (dF q.1).bind fun a => (dF q.2.1).bind fun b => (dF q.2.2).map fun e => .flt (f a b e)
noncomputable def ints1 (st : Store) (f : List Int → Option Int) (d : D) : Option D := (asList st d).bind fun l => (intsOf l).bind fun x => (f x).map .int
noncomputable def fnP (st : Store) (f : Fn) (l : List D) : Option D := Fn.casesOn f
  ((un1 l).bind (lenF st))
  ((un1 l).bind (ints1 st List.min?))
  ((un1 l).bind (ints1 st List.max?))
  ((un3 l).bind (fl3 maxF))
  ((un3 l).bind (fl3 minF))
  ((un2 l).bind fun q => two dI dI (fun a b => some (.int (if b < a then b else a))) q.1 q.2)
  ((un2 l).bind fun q => two dI dI (fun a b => some (.int (if a < b then b else a))) q.1 q.2)
  ((un1 l).bind fun d => (dF d).bind fun x => match Float64.decode x with | .fin sg m e => some (.int (Float64.truncOf sg m e)) | _ => .none)
  ((un1 l).bind (ints1 st fun x => some x.sum))
  ((un1 l).bind fun d => (dI d).bind fun n => leP' n.natAbs (.rng 0 n 1))
  ((un3 l).bind fun q => (dI q.1).bind fun a => (dI q.2.1).bind fun b => (dI q.2.2).bind fun e => if e = 1 ∨ e = -1 then some (.rng a b e) else .none)
  ((un1 l).bind fun d => (dI d).bind fun i => if i.natAbs.log2 < 1920 then some (.str (toString i)) else .none)
  ((un1 l).bind fun d => (dS d).bind fun x => if x.length ≤ 640 then (PySem.intText? x).map .int else .none)
  ((un1 l).bind fun d => (asList st d).bind sortD)

noncomputable def meQ (st : Store) (m : Me) (x : Str) (d : D) : Option D := Me.casesOn m
  ((dS d).map fun y => .int (Txt.count x y))
  ((dS d).bind fun y => if Txt.contains x y = true then some (.int (Txt.find x y)) else .none)
  ((asList st d).bind fun l => (strsOf l).bind fun t => if JoinOk x t = true then some (.str (Txt.join x t)) else .none)
  ((dS d).bind fun y => if y.length ≠ 0 ∧ x.length + 2 ≤ lid then some (.lst ((Txt.split x y).map .str)) else .none)
noncomputable def meP (st : Store) (m : Me) (o : D) (l : List D) : Option D := (dS o).bind fun x => (un1 l).bind fun d => meQ st m x d
noncomputable def lindexP (o a : D) : Option D := two dL dB (fun l b => if b = true then (boolsOf l).bind fun bs => if (bs.contains true && Nat.ble bs.length lid) = true then some (.int (bs.idxOf true : Nat)) else .none else .none) o a
noncomputable def replP (o : D) (a b : Str) : Option D := (dS o).bind fun x => if (Nat.ble x.length lid && Nat.ble b.length 1 && !(a == b)) = true then some (.str (Txt.replace x a b)) else .none

noncomputable def isNo (d : D) : Bool := D.casesOn (motive_1 := fun _ => Bool) d true (fun _ => false) (fun _ => false) (fun _ => false) (fun _ => false) (fun _ => false) (fun _ => false) (fun _ _ _ => false) (fun _ => false)
theorem isNo_ok {d : D} : isNo d = true → d = .none := D.casesOn (motive_1 := fun d => isNo d = true → d = .none) d (fun _ => rfl) (fun _ h => Bool.noConfusion h) (fun _ h => Bool.noConfusion h) (fun _ h => Bool.noConfusion h) (fun _ h => Bool.noConfusion h) (fun _ h => Bool.noConfusion h) (fun _ h => Bool.noConfusion h) (fun _ _ _ h => Bool.noConfusion h) (fun _ h => Bool.noConfusion h)

noncomputable def prsOf : List D → Option (List (Str × Str))
  | [] => some []
  | d :: r => (dT d).bind fun l => (un2 l).bind fun q => two dS dS (fun a b => (prsOf r).map ((a, b) :: ·)) q.1 q.2
noncomputable def pairTexts (prs : List (Str × Str)) : List Str := prs.map fun p => Txt.join ⟨#[]⟩ [p.1, p.2]
noncomputable def strAcc (l : List D) : Option Str := (prsOf l).bind fun t => if (t.all (fun p => JoinOk ⟨#[]⟩ [p.1, p.2]) && Nat.ble t.length lid && JoinOk ⟨#[]⟩ (pairTexts t)) = true then some (Txt.join ⟨#[]⟩ (pairTexts t)) else .none
noncomputable def fromP (l : List D) (o : Option D) : Option Nat := match o with | .none => some 0 | some d => (dI d).bind fun i => if 0 ≤ i ∧ i.toNat ≤ l.length then some i.toNat else .none

inductive Fl where
  | next
  | brk
  | ret (d : D)

noncomputable def setAll : List Nat → List D → Vars → Option Vars
  | [], [], σ => some σ
  | i :: is, d :: ds, σ => setAll is ds (σ.set i d)
  | _, _, _ => .none
noncomputable def bindT (tg : Tg) (σ : Vars) (d : D) : Option Vars := match tg with
  | .one x => some (σ.set x d)
  | .tup xs => (dT d).bind fun ds => setAll xs ds σ

noncomputable def compGo (test : Vars → Store → Option (Bool × Store)) (elt : Vars → Store → Option (D × Store)) (src : Store → Nat → Option (Option D)) (tg : Tg) (σ : Vars) : Nat → Nat → Store → List D → Option (List D × Store)
  | 0, _, _, _ => .none
  | n + 1, j, st, acc => (src st j).bind fun o => match o with
    | .none => some (acc, st)
    | some d => (bindT tg σ d).bind fun σ' => (test σ' st).bind fun r => match r.1 with
      | true => (elt σ' r.2).bind fun y => compGo test elt src tg σ n (j + 1) y.2 (acc ++ [y.1])
      | false => compGo test elt src tg σ n (j + 1) r.2 acc

noncomputable def forGo (body : Vars → Store → Option (Fl × Vars × Store)) (src : Store → Nat → Option (Option D)) (tg : Tg) : Nat → Nat → Vars → Store → Option (Fl × Vars × Store)
  | 0, _, _, _ => .none
  | n + 1, j, σ, st => (src st j).bind fun o => match o with
    | .none => some (.next, σ, st)
    | some d => (bindT tg σ d).bind fun σ' => (body σ' st).bind fun r => match r.1 with
      | .next => forGo body src tg n (j + 1) r.2.1 r.2.2
      | .brk => some (.next, r.2.1, r.2.2)
      | .ret v => some (.ret v, r.2.1, r.2.2)

noncomputable def hasTab (st : Store) : Bool := match st with | .tab :: _ => true | _ => false

variable (F : Nat → Option PF)
mutual
noncomputable def ev : Nat → Vars → Store → PE → Option (D × Store)
  | 0, _, _, _ => .none
  | n + 1, σ, st, e => match e with
    | .lit d => some (d, st)
    | .var i => (σ.get i).map fun d => (d, st)
    | .bin op a b => (ev n σ st a).bind fun x => (ev n σ x.2 b).bind fun y => (binP op x.1 y.1).map fun d => (d, y.2)
    | .neg a => (ev n σ st a).bind fun x => (dI x.1).map fun i => (.int (-i), x.2)
    | .cmp1 op a b => (ev n σ st a).bind fun x => (ev n σ x.2 b).bind fun y => (cmpP y.2 op x.1 y.1).map fun d => (.bool d, y.2)
    | .cmp2 o₁ o₂ a b c => (ev n σ st a).bind fun x => (ev n σ x.2 b).bind fun y => (cmpP y.2 o₁ x.1 y.1).bind fun d => match d with
        | true => (ev n σ y.2 c).bind fun z => (cmpP z.2 o₂ y.1 z.1).map fun d => (.bool d, z.2)
        | false => some (.bool false, y.2)
    | .ite c a b => (evT n σ st c).bind fun r => match r.1 with | true => ev n σ r.2 a | false => ev n σ r.2 b
    | .idx a i => (ev n σ st a).bind fun x => (ev n σ x.2 i).bind fun y => (idxP y.2 x.1 y.1).map fun d => (d, y.2)
    | .slc a lo hi => (ev n σ st a).bind fun x => (evO n σ x.2 lo).bind fun y => (evO n σ y.2 hi).bind fun z => (slcP x.1 y.1 z.1).map fun d => (d, z.2)
    | .tup l => (evs n σ st l).map fun r => (.tup r.1, r.2)
    | .lst l => (evs n σ st l).map fun r => (.lst r.1, r.2)
    | .comp e tg it c => (ev n σ st it).bind fun r => (srcOf tg r.1).bind fun src =>
        (compGo (fun σ st => match c with | some c => evT n σ st c | .none => some (true, st)) (fun σ st => ev n σ st e) src tg σ lid 0 r.2 []).map fun q => (.lst q.1, q.2)
    | .fn f l => (evs n σ st l).bind fun r => (fnP r.2 f r.1).map fun d => (d, r.2)
    | .me m o l => (ev n σ st o).bind fun x => (evs n σ x.2 l).bind fun r => (meP r.2 m x.1 r.1).map fun d => (d, r.2)
    | .repl o a b => (ev n σ st o).bind fun x => (replP x.1 a b).map fun d => (d, x.2)
    | .lindex o a => (ev n σ st o).bind fun x => (ev n σ x.2 a).bind fun y => (lindexP x.1 y.1).map fun d => (d, y.2)
    | .sub k a b => (ev n σ st a).bind fun x => (ev n σ x.2 b).bind fun y => (two dS dS (subP k) x.1 y.1).map fun d => (d, y.2)
    | .call f l => (evs n σ st l).bind fun r => callF n f r.1 r.2
    | .acc0 => some (.ref st.length, st ++ [.acc []])
    | .meth f o l => (ev n σ st o).bind fun x => (getAcc x.2 x.1).bind fun q => (evs n σ x.2 l).bind fun r => callF n f (.ref q.1 :: r.1) r.2
    | .accAppend o a => (ev n σ st o).bind fun x => (getAcc x.2 x.1).bind fun q => (ev n σ x.2 a).bind fun y => (getAcc y.2 (.ref q.1)).bind fun p =>
        if p.2.length ≤ lid then some (.none, y.2.set q.1 (.acc (p.2 ++ [y.1]))) else .none
    | .accPop o => (ev n σ st o).bind fun x => (getAcc x.2 x.1).bind fun q => if q.2.length ≤ lid then (match q.2.getLast? with | some d => some (d, x.2.set q.1 (.acc q.2.dropLast)) | .none => some (.tup [.str ⟨#[]⟩, .str ⟨#[]⟩], x.2)) else .none
    | .accLen o => (ev n σ st o).bind fun x => (getAcc x.2 x.1).bind fun q => if q.2.length ≤ lid then some (.int q.2.length, x.2) else .none
    | .accStr o => (ev n σ st o).bind fun x => (getAcc x.2 x.1).bind fun q => if hasTab x.2 = true then (strAcc q.2).map fun t => (.str t, x.2) else .none
    | .popFrom o i => (ev n σ st o).bind fun x => (getAcc x.2 x.1).bind fun q => (evO n σ x.2 i).bind fun y => (getAcc y.2 (.ref q.1)).bind fun p => if p.2.length ≤ lid then (fromP p.2 y.1).map fun k => (.lst (p.2.drop k), y.2.set q.1 (.acc (p.2.take k))) else .none
    | .mlAppend o a => (ev n σ st o).bind fun x => (getMl x.2 x.1).bind fun q => (ev n σ x.2 a).bind fun y => (getMl y.2 (.ref q.1)).bind fun p =>
        if p.2.length ≤ lid then some (.none, y.2.set q.1 (.ml (p.2 ++ [y.1]))) else .none
    | .band _ => .none
    | .bor _ => .none
    | .bnot _ => .none
noncomputable def evO : Nat → Vars → Store → Option PE → Option (Option D × Store)
  | 0, _, _, _ => .none
  | n + 1, σ, st, e => match e with
    | .none => some (.none, st)
    | some e => (ev n σ st e).map fun x => (some x.1, x.2)
noncomputable def evs : Nat → Vars → Store → List PE → Option (List D × Store)
  | 0, _, _, _ => .none
  | n + 1, σ, st, l => match l with
    | [] => some ([], st)
    | e :: r => (ev n σ st e).bind fun x => (evs n σ x.2 r).map fun y => (x.1 :: y.1, y.2)
noncomputable def evT : Nat → Vars → Store → PE → Option (Bool × Store)
  | 0, _, _, _ => .none
  | n + 1, σ, st, e => match e with
    | .bnot a => (evT n σ st a).map fun r => (!r.1, r.2)
    | .band l => evAnd n σ st l
    | .bor l => evOr n σ st l
    | .cmp1 op a b => (ev n σ st a).bind fun x => (ev n σ x.2 b).bind fun y => (cmpP y.2 op x.1 y.1).map fun d => (d, y.2)
    | .cmp2 o₁ o₂ a b c => (ev n σ st a).bind fun x => (ev n σ x.2 b).bind fun y => (cmpP y.2 o₁ x.1 y.1).bind fun d => match d with
        | true => (ev n σ y.2 c).bind fun z => (cmpP z.2 o₂ y.1 z.1).map fun d => (d, z.2)
        | false => some (false, y.2)
    | .var i => ((σ.get i).bind dB).map fun b => (b, st)
    | .bin op a b => (ev n σ st (.bin op a b)).bind fun x => (dI x.1).map fun i => (i != 0, x.2)
    | _ => .none
noncomputable def evAnd : Nat → Vars → Store → List PE → Option (Bool × Store)
  | 0, _, _, _ => .none
  | n + 1, σ, st, l => match l with
    | [] => some (true, st)
    | e :: r => (evT n σ st e).bind fun x => match x.1 with | true => evAnd n σ x.2 r | false => some (false, x.2)
noncomputable def evOr : Nat → Vars → Store → List PE → Option (Bool × Store)
  | 0, _, _, _ => .none
  | n + 1, σ, st, l => match l with
    | [] => some (false, st)
    | e :: r => (evT n σ st e).bind fun x => match x.1 with | true => some (true, x.2) | false => evOr n σ x.2 r
noncomputable def callF : Nat → Nat → List D → Store → Option (D × Store)
  | 0, _, _, _ => .none
  | n + 1, f, ds, st => match F f with
    | some pf => (setAll pf.params ds []).bind fun σ => match D.refsLts 0 ds && !pf.opn with
      | true => (run n σ [] pf.body).bind fun r => match r.1 with
        | .ret d => (frz r.2.2 6 d).map fun d => (d, st)
        | .next => some (.none, st)
        | .brk => .none
      | false => (run n σ st pf.body).bind fun r => match r.1 with
        | .ret d => some (d, r.2.2)
        | .next => some (.none, r.2.2)
        | .brk => .none
    | .none => .none
noncomputable def run : Nat → Vars → Store → List PS → Option (Fl × Vars × Store)
  | 0, _, _, _ => .none
  | n + 1, σ, st, l => match l with
    | [] => some (.next, σ, st)
    | s :: r => (exec1 n σ st s).bind fun q => match q.1 with
      | .next => run n q.2.1 q.2.2 r
      | .brk => some (.brk, q.2.1, q.2.2)
      | .ret d => some (.ret d, q.2.1, q.2.2)
noncomputable def whl : Nat → Vars → Store → PE → List PS → Option (Fl × Vars × Store)
  | 0, _, _, _, _ => .none
  | n + 1, σ, st, c, b => (evT n σ st c).bind fun r => match r.1 with
    | true => (run n σ r.2 b).bind fun q => match q.1 with
      | .next => whl n q.2.1 q.2.2 c b
      | .brk => some (.next, q.2.1, q.2.2)
      | .ret d => some (.ret d, q.2.1, q.2.2)
    | false => some (.next, σ, r.2)
noncomputable def exec1 : Nat → Vars → Store → PS → Option (Fl × Vars × Store)
  | 0, _, _, _ => .none
  | n + 1, σ, st, s => match s with
    | .asg i e => (ev n σ st e).map fun x => (.next, σ.set i x.1, x.2)
    | .asgM i e => (ev n σ st e).bind fun x => (dL x.1).map fun l => (.next, σ.set i (.ref x.2.length), x.2 ++ [.ml l])
    | .asgT is e => (ev n σ st e).bind fun x => (dT x.1).bind fun l => (setAll is l σ).map fun σ' => (.next, σ', x.2)
    | .seti i k e => (ev n σ st e).bind fun x => (ev n σ x.2 k).bind fun y => (σ.get i).bind fun o => (getMl y.2 o).bind fun q => (dI y.1).bind fun j =>
        if 0 ≤ j ∧ j.natAbs ≤ lid ∧ j.toNat < q.2.length then some (.next, σ, y.2.set q.1 (.ml (q.2.set j.toNat x.1))) else .none
    | .ifs c a b => (evT n σ st c).bind fun r => match r.1 with | true => run n σ r.2 a | false => run n σ r.2 b
    | .for1 tg it b => (ev n σ st it).bind fun r => (srcOf tg r.1).bind fun src => forGo (fun σ st => run n σ st b) src tg (lid + 1) 0 σ r.2
    | .whl c b => whl n σ st c b
    | .brk => some (.brk, σ, st)
    | .ret e => (ev n σ st e).map fun x => (.ret x.1, σ, x.2)
    | .ex e => (ev n σ st e).bind fun x => if isNo x.1 = true then some (.next, σ, x.2) else .none
end

end Mine.Internal
end
section
open PySem PySem.W PySem.Calls PyProof.Rows
set_option Elab.async false
namespace Mine.Internal

noncomputable abbrev tupObj (vs : List Value) (n : Nat) : Obj := { cls := .type "tuple", data := .seq vs.toArray n }
noncomputable abbrev lstObj (vs : List Value) (n : Nat) : Obj := { cls := .type "list", data := .seq vs.toArray n }

mutual
inductive Lay (P : Addr → Obj → Prop) (ρ : List Addr) : Value → D → Prop
  | none : Lay P ρ Value.none D.none
  | bool (b : Bool) : Lay P ρ (Value.bool b) (D.bool b)
  | int (i : Int) (t : Tok) : Lay P ρ (Value.int i t) (D.int i)
  | flt (b : UInt64) (t : Tok) : Lay P ρ (Value.float b t) (D.flt b)
  | str (x : Str) (t : Tok) : Lay P ρ (Value.str x t) (D.str x)
  | tup {a : Addr} {vs : List Value} {n : Nat} {ds : List D} : P a (tupObj vs n) → Lays P ρ vs ds → Lay P ρ (Value.ref a) (D.tup ds)
  | lst {a : Addr} {vs : List Value} {n : Nat} {ds : List D} : P a (lstObj vs n) → Lays P ρ vs ds → Lay P ρ (Value.ref a) (D.lst ds)
  | rng {a : Addr} {x y z : Int} {t u v : Tok} : P a { cls := .type "range", dict := Option.none, data := .fields #[.int x t, .int y u, .int z v], slots := #[] } → Lay P ρ (Value.ref a) (D.rng x y z)
  | ref {i : Nat} {a : Addr} : ρ[i]? = some a → Lay P ρ (Value.ref a) (D.ref i)
inductive Lays (P : Addr → Obj → Prop) (ρ : List Addr) : List Value → List D → Prop
  | nil : Lays P ρ [] []
  | cons {v : Value} {vs : List Value} {d : D} {ds : List D} : Lay P ρ v d → Lays P ρ vs ds → Lays P ρ (v :: vs) (d :: ds)
end

section
variable {P P' : Addr → Obj → Prop} {ρ ρ' : List Addr}
theorem Lay.mono (hP : ∀ a o, P a o → P' a o) (hρ : ∀ (i : Nat) (a : Addr), ρ[i]? = some a → ρ'[i]? = some a) {v : Value} {d : D} (h : Lay P ρ v d) : Lay P' ρ' v d :=
  Lay.rec (motive_1 := fun v d _ => Lay P' ρ' v d) (motive_2 := fun vs ds _ => Lays P' ρ' vs ds) .none .bool .int .flt .str (fun h _ r => .tup (hP _ _ h) r) (fun h _ r => .lst (hP _ _ h) r) (fun h => .rng (hP _ _ h)) (fun h => .ref (hρ _ _ h)) .nil (fun _ _ a b => .cons a b) h
theorem Lays.mono (hP : ∀ a o, P a o → P' a o) (hρ : ∀ (i : Nat) (a : Addr), ρ[i]? = some a → ρ'[i]? = some a) {vs : List Value} {ds : List D} (h : Lays P ρ vs ds) : Lays P' ρ' vs ds :=
  Lays.rec (motive_1 := fun v d _ => Lay P' ρ' v d) (motive_2 := fun vs ds _ => Lays P' ρ' vs ds) .none .bool .int .flt .str (fun h _ r => .tup (hP _ _ h) r) (fun h _ r => .lst (hP _ _ h) r) (fun h => .rng (hP _ _ h)) (fun h => .ref (hρ _ _ h)) .nil (fun _ _ a b => .cons a b) h
theorem Lay.noneI {v : Value} (h : Lay P ρ v .none) : v = .none := by cases h; rfl
theorem Lay.boolI {v : Value} {b : Bool} (h : Lay P ρ v (.bool b)) : v = .bool b := by cases h; rfl
theorem Lay.intI {v : Value} {i : Int} (h : Lay P ρ v (.int i)) : ∃ t, v = .int i t := by cases h; exact ⟨_, rfl⟩
theorem Lay.fltI {v : Value} {i : UInt64} (h : Lay P ρ v (.flt i)) : ∃ t, v = .float i t := by cases h; exact ⟨_, rfl⟩
theorem Lay.strI {v : Value} {i : Str} (h : Lay P ρ v (.str i)) : ∃ t, v = .str i t := by cases h; exact ⟨_, rfl⟩
theorem Lay.tupI {v : Value} {l : List D} (h : Lay P ρ v (.tup l)) : ∃ a vs n, v = .ref a ∧ P a (tupObj vs n) ∧ Lays P ρ vs l := by cases h with | tup p r => exact ⟨_, _, _, rfl, p, r⟩
theorem Lay.lstI {v : Value} {l : List D} (h : Lay P ρ v (.lst l)) : ∃ a vs n, v = .ref a ∧ P a (lstObj vs n) ∧ Lays P ρ vs l := by cases h with | lst p r => exact ⟨_, _, _, rfl, p, r⟩
theorem Lay.refI {v : Value} {i : Nat} (h : Lay P ρ v (.ref i)) : ∃ a, v = .ref a ∧ ρ[i]? = some a := by cases h with | ref p => exact ⟨_, rfl, p⟩
theorem Lays.nilI {vs : List Value} (h : Lays P ρ vs []) : vs = [] := by cases h; rfl
theorem Lays.consI {vs : List Value} {d : D} {ds : List D} (h : Lays P ρ vs (d :: ds)) : ∃ v us, vs = v :: us ∧ Lay P ρ v d ∧ Lays P ρ us ds := by cases h with | cons p r => exact ⟨_, _, rfl, p, r⟩
theorem Lays.nilV {ds : List D} (h : Lays P ρ [] ds) : ds = [] := by cases h; rfl
theorem Lays.consV {v : Value} {vs : List Value} {ds : List D} (h : Lays P ρ (v :: vs) ds) : ∃ d es, ds = d :: es ∧ Lay P ρ v d ∧ Lays P ρ vs es := by cases h with | cons p r => exact ⟨_, _, rfl, p, r⟩
theorem take_some {n i : Nat} {a : Addr} (hi : i < n) (h : ρ[i]? = some a) : (ρ.take n)[i]? = some a := by
  rw [List.getElem?_take_of_lt hi]; exact h
theorem Lay.cut {n : Nat} {v : Value} {d : D} (h : Lay P ρ v d) : D.refsLt n d = true → Lay P (ρ.take n) v d :=
  Lay.rec (motive_1 := fun v d _ => D.refsLt n d = true → Lay P (ρ.take n) v d) (motive_2 := fun vs ds _ => D.refsLts n ds = true → Lays P (ρ.take n) vs ds) (fun _ => .none) (fun b _ => .bool b) (fun i t _ => .int i t) (fun i t _ => .flt i t) (fun i t _ => .str i t)
    (fun h _ r e => .tup h (r e)) (fun h _ r e => .lst h (r e)) (fun h _ => .rng h) (fun h e => .ref (take_some (Nat.le_of_ble_eq_true e) h)) (fun _ => .nil) (fun _ _ a b e => .cons (a (an2 e).1) (b (an2 e).2)) h
theorem Lays.cut {n : Nat} {vs : List Value} {ds : List D} (h : Lays P ρ vs ds) : D.refsLts n ds = true → Lays P (ρ.take n) vs ds :=
  Lays.rec (motive_1 := fun v d _ => D.refsLt n d = true → Lay P (ρ.take n) v d) (motive_2 := fun vs ds _ => D.refsLts n ds = true → Lays P (ρ.take n) vs ds) (fun _ => .none) (fun b _ => .bool b) (fun i t _ => .int i t) (fun i t _ => .flt i t) (fun i t _ => .str i t)
    (fun h _ r e => .tup h (r e)) (fun h _ r e => .lst h (r e)) (fun h _ => .rng h) (fun h e => .ref (take_some (Nat.le_of_ble_eq_true e) h)) (fun _ => .nil) (fun _ _ a b e => .cons (a (an2 e).1) (b (an2 e).2)) h
theorem Lays.length {vs : List Value} {ds : List D} (h : Lays P ρ vs ds) : vs.length = ds.length := by
  induction vs generalizing ds with
  | nil => rw [h.nilV]; rfl
  | cons v vs ih => obtain ⟨d, es, rfl, _, r⟩ := h.consV; exact congrArg Nat.succ (ih r)
theorem Lays.append {vs ws : List Value} {ds es : List D} (h : Lays P ρ vs ds) (k : Lays P ρ ws es) : Lays P ρ (vs ++ ws) (ds ++ es) := by
  induction vs generalizing ds with
  | nil => rw [h.nilV]; exact k
  | cons v vs ih => obtain ⟨d, es, rfl, a, r⟩ := h.consV; exact .cons a (ih r)
theorem Lays.one {v : Value} {d : D} (h : Lay P ρ v d) : Lays P ρ [v] [d] := .cons h .nil
theorem Lays.get {vs : List Value} {ds : List D} (h : Lays P ρ vs ds) {k : Nat} {d : D} (hk : ds[k]? = some d) : ∃ v, vs[k]? = some v ∧ Lay P ρ v d := by
  induction vs generalizing ds k with
  | nil => rw [h.nilV] at hk; exact bad hk
  | cons v vs ih =>
    obtain ⟨d', es, rfl, a, r⟩ := h.consV
    cases k with
    | zero => cases hk; exact ⟨v, rfl, a⟩
    | succ k => exact ih r hk
theorem Lays.get' {vs : List Value} {ds : List D} (h : Lays P ρ vs ds) {k : Nat} {v : Value} (hk : vs[k]? = some v) : ∃ d, ds[k]? = some d ∧ Lay P ρ v d := by
  induction vs generalizing ds k with
  | nil => exact bad hk
  | cons w vs ih =>
    obtain ⟨d', es, rfl, a, r⟩ := h.consV
    cases k with
    | zero => cases hk; exact ⟨d', rfl, a⟩
    | succ k => exact ih r hk
theorem Lays.take {vs : List Value} {ds : List D} (h : Lays P ρ vs ds) (n : Nat) : Lays P ρ (vs.take n) (ds.take n) := by
  induction vs generalizing ds n with
  | nil => rw [h.nilV, List.take_nil, List.take_nil]; exact .nil
  | cons v vs ih =>
    obtain ⟨d', es, rfl, a, r⟩ := h.consV
    cases n with
    | zero => exact .nil
    | succ n => exact .cons a (ih r n)
theorem Lays.drop {vs : List Value} {ds : List D} (h : Lays P ρ vs ds) (n : Nat) : Lays P ρ (vs.drop n) (ds.drop n) := by
  induction vs generalizing ds n with
  | nil => rw [h.nilV, List.drop_nil, List.drop_nil]; exact .nil
  | cons v vs ih =>
    obtain ⟨d', es, rfl, a, r⟩ := h.consV
    cases n with
    | zero => exact .cons a r
    | succ n => exact ih r n
theorem Lays.set {vs : List Value} {ds : List D} (h : Lays P ρ vs ds) {v : Value} {d : D} (hd : Lay P ρ v d) (n : Nat) : Lays P ρ (vs.set n v) (ds.set n d) := by
  induction vs generalizing ds n with
  | nil => rw [h.nilV, List.set_nil, List.set_nil]; exact .nil
  | cons w vs ih =>
    obtain ⟨d', es, rfl, a, r⟩ := h.consV
    cases n with
    | zero => exact .cons hd r
    | succ n => exact .cons a (ih r n)
theorem Lays.snoc {vs : List Value} {v : Value} {ds : List D} (h : Lays P ρ (vs ++ [v]) ds) : ∃ es d, ds = es ++ [d] ∧ Lays P ρ vs es ∧ Lay P ρ v d := by
  induction vs generalizing ds with
  | nil =>
    obtain ⟨d', es, rfl, a, r⟩ := h.consV
    cases r.nilV
    exact ⟨[], _, rfl, .nil, a⟩
  | cons u vs ih =>
    obtain ⟨d', es, rfl, a, r⟩ := h.consV
    obtain ⟨es, d, rfl, hr, hd⟩ := ih r
    exact ⟨_ :: es, d, rfl, .cons a hr, hd⟩
theorem Lays.ints {vs : List Value} {ds : List D} (h : Lays P ρ vs ds) {ns : List Int} (e : intsOf ds = some ns) : IntsAre vs ns := by
  induction ds generalizing vs ns with
  | nil => rw [h.nilI]; cases e; exact .nil
  | cons d ds ih =>
    obtain ⟨v, us, rfl, a, r⟩ := h.consI
    obtain ⟨i, h1, e⟩ := bd_ok e
    obtain ⟨ms, h2, rfl⟩ := mp_ok e
    cases dI_ok h1
    obtain ⟨t, rfl⟩ := a.intI
    exact .cons _ _ (ih r h2)
theorem Lays.strs {vs : List Value} {ds : List D} (h : Lays P ρ vs ds) {xs : List Str} (e : strsOf ds = some xs) : ∃ l, vs = strValues l ∧ l.map (·.1) = xs := by
  induction ds generalizing vs xs with
  | nil => rw [h.nilI]; cases e; exact ⟨[], rfl, rfl⟩
  | cons d ds ih =>
    obtain ⟨v, us, rfl, a, r⟩ := h.consI
    obtain ⟨i, h1, e⟩ := bd_ok e
    obtain ⟨ms, h2, rfl⟩ := mp_ok e
    cases dS_ok h1
    obtain ⟨t, rfl⟩ := a.strI
    obtain ⟨l, rfl, rfl⟩ := ih r h2
    exact ⟨(_, _) :: l, rfl, rfl⟩
end
end Mine.Internal
end
section
open PySem PySem.W PySem.Calls PyProof.Rows
set_option Elab.async false
namespace Mine.Internal

structure Cx where
  prog : Program
  w : World
  K : Frag
  C : Addr
  TC : Addr
  T : Addr
  s₀ : Shared

noncomputable def Out (ms : List Addr) (h : Heap) : Addr → Obj → Prop := fun a o => h.get? a = some o ∧ a ∉ ms

noncomputable def AccDict (od : Obj) : Prop := ∃ hs t v k, od = dictOf [⟨hs, .str (Str.ofString "_initial_size") t, v⟩] k
noncomputable def accObj (C dd : Addr) (vs : List Value) (n : Nat) : Obj := { cls := .ref C, dict := some dd, data := .seq vs.toArray n }

noncomputable def MoAt (c : Cx) (ms ρ : List Addr) (h : Heap) (a : Addr) : MO → Prop
  | .ml ds => ∃ (vs : List Value) (n : Nat), h.get? a = some (lstObj vs n) ∧ Lays (Out ms h) ρ vs ds
  | .acc ds => ∃ vs n dd od, h.get? a = some (accObj c.C dd vs n) ∧ Out ms h dd od ∧ AccDict od ∧ Lays (Out ms h) ρ vs ds
  | .tab => a = c.T ∧ (∃ o, Out ms h c.TC o) ∧ ∃ ps, h.IsCode c.TC a ps ∧ h.TableAt c.TC a ps

structure Wf (c : Cx) (fm ρ : List Addr) (st : Store) (s : Shared) : Prop where
  same : ∃ h tk g, s = { c.s₀ with heap := h, toks := tk, gens := g } ∧ AllBare g
  base : ∀ b o, c.s₀.heap.get? b = some o → s.heap.get? b = some o
  alive : ∀ a, a ∈ fm ∨ a ∈ ρ → ∃ o, s.heap.get? a = some o
  new : ∀ a, a ∈ fm ∨ a ∈ ρ → c.s₀.heap.get? a = none
  len : ρ.length = st.length
  store : ∀ (i : Nat) (a : Addr) (mo : MO), ρ[i]? = some a → st[i]? = some mo → MoAt c (fm ++ ρ) ρ s.heap a mo
  nodup : ρ.Nodup
  apart : ∀ a ∈ ρ, a ∉ fm

structure Adv (ρ ρ' : List Addr) (s s' : Shared) : Prop where
  keep : ∀ b o, b ∉ ρ → s.heap.get? b = some o → s'.heap.get? b = some o
  news : ∀ a ∈ ρ', a ∉ ρ → s.heap.get? a = none
  pre : ∀ (i : Nat) (a : Addr), ρ[i]? = some a → ρ'[i]? = some a

theorem Adv.refl (ρ : List Addr) (s : Shared) : Adv ρ ρ s s := ⟨fun _ _ _ e => e, fun _ h k => absurd h k, fun _ _ e => e⟩
theorem Adv.mem {ρ ρ' : List Addr} {s s' : Shared} (x : Adv ρ ρ' s s') {a : Addr} (h : a ∈ ρ) : a ∈ ρ' := by
  obtain ⟨i, hi⟩ := List.getElem?_of_mem h
  exact List.mem_of_getElem? (x.pre i a hi)
theorem Adv.trans {ρ₁ ρ₂ ρ₃ : List Addr} {s₁ s₂ s₃ : Shared} (x : Adv ρ₁ ρ₂ s₁ s₂) (y : Adv ρ₂ ρ₃ s₂ s₃) : Adv ρ₁ ρ₃ s₁ s₃ := by
  refine ⟨fun b o hb e => ?_, fun a ha hn => ?_, fun i a e => y.pre i a (x.pre i a e)⟩
  · refine y.keep b o (fun h2 => ?_) (x.keep b o hb e)
    rw [x.news b h2 hb] at e; cases e
  · by_cases h2 : a ∈ ρ₂
    · exact x.news a h2 hn
    · have h3 := y.news a ha h2
      cases e : s₁.heap.get? a with
      | none => rfl
      | some o => rw [x.keep a o hn e] at h3; cases h3
theorem Adv.out {ρ ρ' fm : List Addr} {s s' : Shared} (x : Adv ρ ρ' s s') {a : Addr} {o : Obj} (h : Out (fm ++ ρ) s.heap a o) : Out (fm ++ ρ') s'.heap a o := by
  obtain ⟨e, n⟩ := h
  rw [List.mem_append, not_or] at n
  refine ⟨x.keep a o n.2 e, fun hm => ?_⟩
  rcases List.mem_append.mp hm with h | h
  · exact n.1 h
  · rw [x.news a h n.2] at e; cases e
theorem Adv.lay {ρ ρ' fm : List Addr} {s s' : Shared} (x : Adv ρ ρ' s s') {v : Value} {d : D} (h : Lay (Out (fm ++ ρ) s.heap) ρ v d) : Lay (Out (fm ++ ρ') s'.heap) ρ' v d :=
  h.mono (fun _ _ q => x.out q) x.pre
theorem Adv.lays {ρ ρ' fm : List Addr} {s s' : Shared} (x : Adv ρ ρ' s s') {v : List Value} {d : List D} (h : Lays (Out (fm ++ ρ) s.heap) ρ v d) : Lays (Out (fm ++ ρ') s'.heap) ρ' v d :=
  h.mono (fun _ _ q => x.out q) x.pre

theorem kp_adv {s s' : Shared} (k : Keeps s s') (ρ : List Addr) : Adv ρ ρ s s' := by
  obtain ⟨h', tk, rfl, k⟩ := k
  exact ⟨fun b o _ e => k b o e, fun _ h n => absurd h n, fun _ _ e => e⟩
theorem kp_rfl (s : Shared) : Keeps s s := ⟨s.heap, s.toks, rfl, fun _ _ e => e⟩
theorem kp_tok (s : Shared) (t : Nat) : Keeps s { s with toks := t } := ⟨s.heap, t, rfl, fun _ _ e => e⟩
theorem kp_push (s : Shared) (o : Obj) : Keeps s { s with heap := s.heap.push o } := ⟨_, s.toks, rfl, fun _ _ e => Heap.get?_push_of_some _ e⟩
theorem kp_trans {a b c : Shared} (x : Keeps a b) (y : Keeps b c) : Keeps a c := by
  refine nng fun nG => ?_
  obtain ⟨h, t, rfl, k⟩ := x
  obtain ⟨h2, t2, rfl, k2⟩ := y
  refine nG ?_
  clear nG
  exact ⟨h2, t2, rfl, fun b o e => k2 b o (k b o e)⟩
theorem kp_get {s s' : Shared} (k : Keeps s s') {b : Addr} {o : Obj} (e : s.heap.get? b = some o) : s'.heap.get? b = some o := by
  obtain ⟨h', tk, rfl, k⟩ := k
  exact k b o e
theorem kp_mk {s : Shared} {h' : Heap} {tk : Nat} (k : ∀ b o, s.heap.get? b = some o → h'.get? b = some o) : Keeps s { s with heap := h', toks := tk } := ⟨h', tk, rfl, k⟩

theorem MoAt.mono {c : Cx} {ms ms' ρ ρ' : List Addr} {h h' : Heap} {a : Addr} {mo : MO} (x : MoAt c ms ρ h a mo) (hP : ∀ b o, Out ms h b o → Out ms' h' b o) (hρ : ∀ (i : Nat) (a : Addr), ρ[i]? = some a → ρ'[i]? = some a)
    (ha : ∀ o, h.get? a = some o → h'.get? a = some o) : MoAt c ms' ρ' h' a mo := by
  cases mo with
  | ml ds => obtain ⟨vs, n, e, l⟩ := x; exact ⟨vs, n, ha _ e, l.mono hP hρ⟩
  | acc ds => obtain ⟨vs, n, dd, od, e, ed, ad, l⟩ := x; exact ⟨vs, n, dd, od, ha _ e, hP _ _ ed, ad, l.mono hP hρ⟩
  | tab =>
    obtain ⟨e, ⟨o, ho⟩, ps, hc, ht⟩ := x
    have kc : ∀ o, h.get? c.TC = some o → h'.get? c.TC = some o := fun o' e' => by
      have := ho.1; rw [e'] at this; cases this; exact (hP _ _ ho).1
    refine ⟨e, ⟨o, hP _ _ ho⟩, ps, ?_, ?_⟩
    · refine nng fun nG => ?_
      obtain ⟨o, vs, file, tf, flags, tg, inF, text, tt, op, a1, r1, r2, r3, r4, r5, r6, b, r⟩ := hc
      refine nG ?_
      clear nG
      exact ⟨o, vs, file, tf, flags, tg, inF, text, tt, op, kc _ a1, r1, r2, r3, r4, r5, r6, ha _ b, r⟩
    · obtain ⟨⟨o, vs, a1, r⟩, t⟩ := ht
      exact ⟨⟨o, vs, kc _ a1, r⟩, ha _ t⟩

theorem Wf.keeps {c : Cx} {fm ρ : List Addr} {st : Store} {s s' : Shared} (x : Wf c fm ρ st s) (k : Keeps s s') : Wf c fm ρ st s' := by
  refine ⟨?_, fun b o e => kp_get k (x.base b o e), fun a ha => ?_, x.new, x.len, fun i a mo e1 e2 => ?_, x.nodup, x.apart⟩
  · refine nng fun nG => ?_
    obtain ⟨h, t, g, e, hg⟩ := x.same
    obtain ⟨h', t', rfl, _⟩ := k
    refine nG ?_
    clear nG
    exact ⟨h', t', g, by rw [e], hg⟩
  · obtain ⟨o, e⟩ := x.alive a ha
    exact ⟨o, kp_get k e⟩
  · exact (x.store i a mo e1 e2).mono (fun b o q => (kp_adv k ρ).out q) (fun _ _ e => e) fun o e => kp_get k e

theorem Wf.out_new {c : Cx} {fm ρ : List Addr} {st : Store} {s : Shared} (x : Wf c fm ρ st s) {s' : Shared} {a : Addr} {o : Obj} (hn : s.heap.get? a = none) (e : s'.heap.get? a = some o) : Out (fm ++ ρ) s'.heap a o := by
  refine ⟨e, fun hm => ?_⟩
  obtain ⟨o', e'⟩ := x.alive a (List.mem_append.mp hm)
  rw [hn] at e'; cases e'
theorem size_none (h : Heap) : h.get? h.objs.size = none := by
  cases e : h.get? h.objs.size with
  | none => rfl
  | some o => exact absurd (Heap.lt_size e) (Nat.lt_irrefl _)

noncomputable def VarAt (env : Env) (h : Heap) (x : Str) (v : Value) : Prop :=
  (env.kindOf x = some .local ∧ ∃ m, h.Ns env.locals m ∧ m x = some v) ∨
  ((env.kindOf x = some .cell ∨ env.kindOf x = some .free) ∧ ∃ cc, env.cells.lookup x = some cc ∧ h.IsCell cc (some v))

structure Fm (kd : Str → Option NameKind) (sc : List (Str × Nat)) (env : Env) (fm : List Addr) (h : Heap) : Prop where
  kdE : env.kindOf = kd
  loc : env.locals ∈ fm
  ns : ∃ m, h.Ns env.locals m
  glob : env.globals = mainGlobals
  blt : env.builtins = builtinsNs
  kind : env.scope.kind = .function
  cell : ∀ x cc, env.cells.lookup x = some cc → cc ∈ fm ∧ (∃ v, h.IsCell cc v) ∧ cc ≠ env.locals
  inj : ∀ x y cc, env.cells.lookup x = some cc → env.cells.lookup y = some cc → x = y
  kinds : ∀ p ∈ sc, kd p.1 = some .local ∨ ((kd p.1 = some .cell ∨ kd p.1 = some .free) ∧ ∃ cc, env.cells.lookup p.1 = some cc)
  one : ∀ p ∈ sc, ∀ q ∈ sc, p.2 = q.2 → p.1 = q.1
  two : ∀ p ∈ sc, ∀ q ∈ sc, p.1 = q.1 → p.2 = q.2

noncomputable def Vr (sc : List (Str × Nat)) (env : Env) (fm ρ : List Addr) (σ : Vars) (h : Heap) : Prop :=
  ∀ p ∈ sc, ∀ d, σ.get p.2 = some d → ∃ v, VarAt env h p.1 v ∧ Lay (Out (fm ++ ρ) h) ρ v d

theorem cellAt {h h' : Heap} {a : Addr} {v : Option Value} (x : h.IsCell a v) (e : ∀ o, h.get? a = some o → h'.get? a = some o) : h'.IsCell a v := let ⟨o, ho, r⟩ := x; ⟨o, e _ ho, r⟩

section
variable {c : Cx} {kd : Str → Option NameKind} {sc : List (Str × Nat)} {env : Env} {fm ρ ρ' : List Addr} {st : Store} {σ : Vars} {s s' : Shared}
theorem Adv.fm_keep (x : Adv ρ ρ' s s') (W : Wf c fm ρ st s) {a : Addr} {o : Obj} (ha : a ∈ fm) (e : s.heap.get? a = some o) : s'.heap.get? a = some o :=
  x.keep a o (fun h => W.apart a h ha) e
theorem Fm.adv (f : Fm kd sc env fm s.heap) (W : Wf c fm ρ st s) (x : Adv ρ ρ' s s') : Fm kd sc env fm s'.heap := by
  refine { f with ns := ?_, cell := fun y cc e => ?_ }
  · obtain ⟨m, hn⟩ := f.ns
    exact ⟨m, hn.at' fun o e => x.fm_keep W f.loc e⟩
  · obtain ⟨h1, ⟨v, h2⟩, h3⟩ := f.cell y cc e
    exact ⟨h1, ⟨v, cellAt h2 fun o e => x.fm_keep W h1 e⟩, h3⟩
theorem Vr.adv (V : Vr sc env fm ρ σ s.heap) (f : Fm kd sc env fm s.heap) (W : Wf c fm ρ st s) (x : Adv ρ ρ' s s') : Vr sc env fm ρ' σ s'.heap := by
  intro p hp d hd
  obtain ⟨v, hv, l⟩ := V p hp d hd
  refine ⟨v, ?_, x.lay l⟩
  rcases hv with ⟨k, m, hn, hm⟩ | ⟨k, cc, hc, hv⟩
  · exact .inl ⟨k, m, hn.at' fun o e => x.fm_keep W f.loc e, hm⟩
  · exact .inr ⟨k, cc, hc, cellAt hv fun o e => x.fm_keep W (f.cell _ _ hc).1 e⟩
end

noncomputable def Rm (n : Nat) (A : Around) : Prop := A.handled = none ∧ A.depth + n < 900 ∧ A.units + 10 * n < 9000
theorem Rm.le {n m : Nat} {A : Around} (h : Rm n A) (k : m ≤ n) : Rm m A := ⟨h.1, by have := h.2.1; lia, by have := h.2.2; lia⟩

noncomputable def EvE (c : Cx) (A : Around) (kd : Str → Option NameKind) (sc : List (Str × Nat)) (e : Expr) (σ : Vars) (st : Store) (d : D) (st' : Store) : Prop :=
  ∀ (env : Env) (fm ρ : List Addr) (s : Shared), Fm kd sc env fm s.heap → Wf c fm ρ st s → Vr sc env fm ρ σ s.heap →
    ∀ Q : Value → Shared → Prop, (∀ v s' ρ', Wf c fm ρ' st' s' → Adv ρ ρ' s s' → Lay (Out (fm ++ ρ') s'.heap) ρ' v d → Q v s') →
      wpAny (model c.prog c.w) A (eval e env) Q (fun _ _ => False) s
noncomputable def EvT (c : Cx) (A : Around) (kd : Str → Option NameKind) (sc : List (Str × Nat)) (e : Expr) (σ : Vars) (st : Store) (b : Bool) (st' : Store) : Prop :=
  ∀ (env : Env) (fm ρ : List Addr) (s : Shared), Fm kd sc env fm s.heap → Wf c fm ρ st s → Vr sc env fm ρ σ s.heap →
    ∀ Q : Bool → Shared → Prop, (∀ s' ρ', Wf c fm ρ' st' s' → Adv ρ ρ' s s' → Q b s') →
      wpAny (model c.prog c.w) A (isTrue e env (eval e env)) Q (fun _ _ => False) s
noncomputable def Op (c : Cx) (A : Around) (t : Sem Value) (fm ρ : List Addr) (d : D) (s : Shared) : Prop :=
  ∀ Q : Value → Shared → Prop, (∀ v s', Keeps s s' → Lay (Out (fm ++ ρ) s'.heap) ρ v d → Q v s') → wpAny (model c.prog c.w) A t Q (fun _ _ => False) s

end Mine.Internal
end
section
open PySem PySem.W PySem.Calls PyProof.Rows
set_option Elab.async false
namespace Mine.Internal

section
variable {c : Cx} {A : Around} {fm ρ : List Addr} {st : Store} {s : Shared} {a b : Value} {x y d : D}

theorem op_val {t : Sem Value} {v : Value} {d : D} (hl : ∀ P : Addr → Obj → Prop, Lay P ρ v d)
    (h : ∀ Q : Value → Shared → Prop, (∀ k, Q v { s with toks := k }) → wpAny (model c.prog c.w) A t Q (fun _ _ => False) s) : Op c A t fm ρ d s :=
  fun Q hQ => h Q fun k => hQ v _ (kp_tok s k) (hl _)
theorem op_int {t : Sem Value} {i : Int} (h : ∀ Q : Value → Shared → Prop, (∀ u k, Q (.int i u) { s with toks := k }) → wpAny (model c.prog c.w) A t Q (fun _ _ => False) s) : Op c A t fm ρ (.int i) s :=
  fun Q hQ => h Q fun u k => hQ _ _ (kp_tok s k) (.int _ _)
theorem op_flt {t : Sem Value} {i : UInt64} (h : ∀ Q : Value → Shared → Prop, (∀ u k, Q (.float i u) { s with toks := k }) → wpAny (model c.prog c.w) A t Q (fun _ _ => False) s) : Op c A t fm ρ (.flt i) s :=
  fun Q hQ => h Q fun u k => hQ _ _ (kp_tok s k) (.flt _ _)
theorem op_str {t : Sem Value} {i : Str} (h : ∀ Q : Value → Shared → Prop, (∀ u k, Q (.str i u) { s with toks := k }) → wpAny (model c.prog c.w) A t Q (fun _ _ => False) s) : Op c A t fm ρ (.str i) s :=
  fun Q hQ => h Q fun u k => hQ _ _ (kp_tok s k) (.str _ _)
theorem op_bool {t : Sem Value} {i : Bool} (h : ∀ Q : Value → Shared → Prop, (∀ k, Q (.bool i) { s with toks := k }) → wpAny (model c.prog c.w) A t Q (fun _ _ => False) s) : Op c A t fm ρ (.bool i) s :=
  fun Q hQ => h Q fun k => hQ _ _ (kp_tok s k) (.bool _)
theorem lid_size {n : Nat} (h : n ≤ lid) : n ≤ sizeLine := Nat.le_trans h (by decide)

noncomputable abbrev LO (fm ρ : List Addr) (s : Shared) (a : Value) (x : D) : Prop := Lay (Out (fm ++ ρ) s.heap) ρ a x
theorem ii_at {P : Addr → Obj → Prop} {γ : Type} {f : Int → Int → Option γ} {r : γ} (ha : Lay P ρ a x) (hb : Lay P ρ b y) (h : two dI dI f x y = some r) : ∃ i j t u, a = .int i t ∧ b = .int j u ∧ f i j = some r := by
  refine nng fun nG => ?_
  obtain ⟨i, j, h1, h2, h3⟩ := two_ok h
  rw [dI_ok h1] at ha
  rw [dI_ok h2] at hb
  obtain ⟨t, e1⟩ := ha.intI
  obtain ⟨u, e2⟩ := hb.intI
  refine nG ?_
  clear nG
  exact ⟨i, j, t, u, e1, e2, h3⟩
theorem ff_at {P : Addr → Obj → Prop} {γ : Type} {f : UInt64 → UInt64 → Option γ} {r : γ} (ha : Lay P ρ a x) (hb : Lay P ρ b y) (h : two dF dF f x y = some r) : ∃ i j t u, a = .float i t ∧ b = .float j u ∧ f i j = some r := by
  refine nng fun nG => ?_
  obtain ⟨i, j, h1, h2, h3⟩ := two_ok h
  rw [dF_ok h1] at ha
  rw [dF_ok h2] at hb
  obtain ⟨t, e1⟩ := ha.fltI
  obtain ⟨u, e2⟩ := hb.fltI
  refine nG ?_
  clear nG
  exact ⟨i, j, t, u, e1, e2, h3⟩
theorem ss_at {P : Addr → Obj → Prop} {γ : Type} {f : Str → Str → Option γ} {r : γ} (ha : Lay P ρ a x) (hb : Lay P ρ b y) (h : two dS dS f x y = some r) : ∃ i j t u, a = .str i t ∧ b = .str j u ∧ f i j = some r := by
  refine nng fun nG => ?_
  obtain ⟨i, j, h1, h2, h3⟩ := two_ok h
  rw [dS_ok h1] at ha
  rw [dS_ok h2] at hb
  obtain ⟨t, e1⟩ := ha.strI
  obtain ⟨u, e2⟩ := hb.strI
  refine nG ?_
  clear nG
  exact ⟨i, j, t, u, e1, e2, h3⟩

theorem ll_at {P : Addr → Obj → Prop} {γ : Type} {f : List D → List D → Option γ} {r : γ} (ha : Lay P ρ a x) (hb : Lay P ρ b y) (h : two dL dL f x y = some r) : ∃ i j a1 b1 vs us n m, a = .ref a1 ∧ b = .ref b1 ∧ P a1 (lstObj vs n) ∧ P b1 (lstObj us m) ∧ Lays P ρ vs i ∧ Lays P ρ us j ∧ f i j = some r := by
  refine nng fun nG => ?_
  obtain ⟨i, j, h1, h2, h3⟩ := two_ok h
  rw [dL_ok h1] at ha
  rw [dL_ok h2] at hb
  obtain ⟨a1, vs, n, e1, p1, l1⟩ := ha.lstI
  obtain ⟨b1, us, m, e2, p2, l2⟩ := hb.lstI
  refine nG ?_
  clear nG
  exact ⟨i, j, a1, b1, vs, us, n, m, e1, e2, p1, p2, l1, l2, h3⟩

theorem addP_ok (W : Wf c fm ρ st s) (ha : LO fm ρ s a x) (hb : LO fm ρ s b y) (h : addP x y = some d) : Op c A (binaryOp .Add a b) fm ρ d s := by
  rcases orP_ok h with h | h
  · obtain ⟨i, j, t, u, rfl, rfl, h⟩ := ii_at ha hb h
    cases h
    exact op_int fun Q hQ => add_int (hQ _ _)
  rcases orP_ok h with h | h
  · refine nng fun nG => ?_
    obtain ⟨i, j, t, u, rfl, rfl, h⟩ := ff_at ha hb h
    cases h
    refine nG ?_
    clear nG
    exact op_flt fun Q hQ => add_float (hQ _ _)
  rcases orP_ok h with h | h
  · obtain ⟨i, j, t, u, rfl, rfl, h⟩ := ss_at ha hb h
    obtain ⟨hl, h⟩ := if_ok h
    cases h
    exact op_str fun Q hQ => add_str hQ (lid_size hl)
  · refine nng fun nG => ?_
    obtain ⟨i, j, a1, b1, vs, us, n, m, rfl, rfl, pa, pb, ra, rb, h⟩ := ll_at ha hb h
    obtain ⟨hl, h⟩ := if_ok h
    cases h
    refine nG ?_
    clear nG
    intro Q hQ
    refine P.add_list (n := n) (n2 := m) (items := vs.toArray) (items2 := us.toArray) pa.1 pb.1 ?_ (by rw [List.size_toArray, List.size_toArray, ra.length, rb.length]; exact lid_size hl)
    rw [List.append_toArray]
    have k := kp_push s (lstObj (vs ++ us) 0)
    exact hQ _ _ k (.lst (n := 0) (W.out_new (size_none _) (Heap.get?_push_size _ rfl)) ((kp_adv k ρ).lays (ra.append rb)))
theorem sbP_ok (ha : LO fm ρ s a x) (hb : LO fm ρ s b y) (h : sbP x y = some d) : Op c A (binaryOp .Sub a b) fm ρ d s := by
  rcases orP_ok h with h | h
  · obtain ⟨i, j, t, u, rfl, rfl, h⟩ := ii_at ha hb h
    cases h
    exact op_int fun Q hQ => sub_int (hQ _ _)
  · obtain ⟨i, j, t, u, rfl, rfl, h⟩ := ff_at ha hb h
    cases h
    exact op_flt fun Q hQ => sub_float (hQ _ _)
theorem mulP_ok (ha : LO fm ρ s a x) (hb : LO fm ρ s b y) (h : mulP x y = some d) : Op c A (binaryOp .Mult a b) fm ρ d s := by
  rcases orP_ok h with h | h
  · obtain ⟨i, j, t, u, rfl, rfl, h⟩ := ii_at ha hb h
    obtain ⟨hl, h⟩ := if_ok h
    cases h
    exact op_int fun Q hQ => mul_int (hQ _ _) (IntMulOk.of_left (intBits_le (Nat.lt_of_lt_of_le hl.1 (Nat.pow_le_pow_right (by decide) (by decide)))))
  rcases orP_ok h with h | h
  · obtain ⟨i, j, h1, h2, h⟩ := two_ok h
    rw [dF_ok h1] at ha
    rw [dI_ok h2] at hb
    obtain ⟨t, rfl⟩ := ha.fltI
    obtain ⟨u, rfl⟩ := hb.intI
    obtain ⟨hl, h⟩ := ifn_ok h
    cases h
    exact op_flt fun Q hQ => AutoFloatOps.mul_fi_1 hl (hQ _ _)
  · obtain ⟨i, j, h1, h2, h⟩ := two_ok h
    rw [dS_ok h1] at ha
    rw [dI_ok h2] at hb
    obtain ⟨t, rfl⟩ := ha.strI
    obtain ⟨u, rfl⟩ := hb.intI
    obtain ⟨hl, h⟩ := if_ok h
    cases h
    have h2 := hl.2
    have e : lid = 1048576 := rfl
    exact op_str fun Q hQ => SB.mul (mulOk_of 16 1048576 hl.1 (by lia) (by lia) (by decide) (by decide)) hQ
theorem divP_ok (ha : LO fm ρ s a x) (hb : LO fm ρ s b y) (h : divP x y = some d) : Op c A (binaryOp .Div a b) fm ρ d s := by
  rcases orP_ok h with h | h
  · obtain ⟨i, j, t, u, rfl, rfl, h⟩ := ff_at ha hb h
    obtain ⟨hl, h⟩ := ifn_ok h
    cases h
    exact op_flt fun Q hQ => AutoFloatOps.truediv_1 hl (hQ _ _)
  · obtain ⟨i, j, h1, h2, h⟩ := two_ok h
    rw [dI_ok h1] at ha
    rw [dF_ok h2] at hb
    obtain ⟨t, rfl⟩ := ha.intI
    obtain ⟨u, rfl⟩ := hb.fltI
    obtain ⟨hl, h⟩ := ifn_ok h
    obtain ⟨hl2, h⟩ := ifn_ok h
    cases h
    exact op_flt fun Q hQ => AutoFloatOps.truediv_if_2 hl hl2 (hQ _ _)
theorem fdvP_ok (ha : LO fm ρ s a x) (hb : LO fm ρ s b y) (h : fdvP x y = some d) : Op c A (binaryOp .FloorDiv a b) fm ρ d s := by
  obtain ⟨i, j, t, u, rfl, rfl, h⟩ := ii_at ha hb h
  obtain ⟨hl, h⟩ := ifn_ok h
  cases h
  rw [not_or, Decidable.not_not] at hl
  exact op_int fun Q hQ => floordiv_int hl.1 (hQ _ _) (.inl (PyProof.noPylong_small hl.2))
theorem modP_ok (ha : LO fm ρ s a x) (hb : LO fm ρ s b y) (h : modP x y = some d) : Op c A (binaryOp .Mod a b) fm ρ d s := by
  rcases orP_ok h with h | h
  · obtain ⟨i, j, t, u, rfl, rfl, h⟩ := ii_at ha hb h
    obtain ⟨hl, h⟩ := ifn_ok h
    cases h
    exact op_int fun Q hQ => mod_int' hl (hQ _ _)
  · obtain ⟨i, j, t, u, rfl, rfl, h⟩ := ff_at ha hb h
    obtain ⟨hl, h⟩ := ifn_ok h
    cases h
    exact op_flt fun Q hQ => AutoFloatOps.mod_1 hl (hQ _ _)
theorem powP_ok (ha : LO fm ρ s a x) (hb : LO fm ρ s b y) (h : powP x y = some d) : Op c A (binaryOp .Pow a b) fm ρ d s := by
  obtain ⟨i, j, t, u, rfl, rfl, h⟩ := ii_at ha hb h
  obtain ⟨hl, h⟩ := if_ok h
  cases h
  refine op_int fun Q hQ => pow_int hl.1 ?_ (hQ _ _)
  have h1 := intBits_le (k := 20) hl.2.2
  exact Int.le_trans (Int.mul_le_mul (Int.ofNat_le.mpr h1) hl.2.1 hl.1 (by decide)) (by decide)
theorem binP_ok {op : Operator} (W : Wf c fm ρ st s) (ha : LO fm ρ s a x) (hb : LO fm ρ s b y) (h : binP op x y = some d) : Op c A (binaryOp op a b) fm ρ d s := by
  cases op with
  | Add => exact addP_ok W ha hb h
  | Sub => exact sbP_ok ha hb h
  | Mult => exact mulP_ok ha hb h
  | Div => exact divP_ok ha hb h
  | FloorDiv => exact fdvP_ok ha hb h
  | Mod => exact modP_ok ha hb h
  | Pow => exact powP_ok ha hb h
  | _ => exact bad h

theorem D.reads {P : Addr → Obj → Prop} {h : Heap} (hP : ∀ a o, P a o → h.get? a = some o) {v : Value} {d : D} (l : Lay P ρ v d) : D.pl d = true → ∃ as, Reads h v (D.py d) as :=
  Lay.rec (motive_1 := fun v d _ => D.pl d = true → ∃ as, Reads h v (D.py d) as) (motive_2 := fun vs ds _ => D.pls ds = true → ∃ as, ReadsAll h vs (D.pys ds) as) (fun _ => ⟨_, Reads.none⟩) (fun b _ => ⟨_, Reads.bool b⟩) (fun i t _ => ⟨_, Reads.int i t⟩) (fun _ _ e => Bool.noConfusion e) (fun x t _ => ⟨_, Reads.str x t⟩)
    (fun p _ r e => let ⟨as, q⟩ := r e; ⟨as, reads_tuple_at (hP _ _ p) rfl rfl q⟩) (fun p _ r e => let ⟨as, q⟩ := r e; ⟨_, reads_list_at (hP _ _ p) rfl rfl q⟩) (fun _ e => Bool.noConfusion e) (fun _ e => Bool.noConfusion e)
    (fun _ => ⟨_, ReadsAll.nil⟩) (fun _ _ a b e => let ⟨as, q⟩ := a (an2 e).1; let ⟨bs, p⟩ := b (an2 e).2; ⟨_, ReadsAll.cons q p⟩) l
theorem Rm.c64 {n : Nat} (h : Rm n A) : A.units + 64 < cLine := by have := h.2.2; have e : cLine = 9900 := rfl; lia
theorem outP (ms : List Addr) (h : Heap) : ∀ a o, Out ms h a o → h.get? a = some o := fun _ _ x => x.1
theorem seqEq_ok {r : Bool} (h : seqEq x y = some r) : eqOk x = true ∧ eqOk y = true ∧ r = PyData.eqv (D.py x) (D.py y) := by
  obtain ⟨hb, h⟩ := if_ok h
  cases h
  exact ⟨(an2 hb).1, (an2 hb).2, rfl⟩

theorem cmp_eq {n : Nat} {r : Bool} (R : Rm n A) (ha : LO fm ρ s a x) (hb : LO fm ρ s b y) (h : seqEq x y = some r) : Op c A (compareOp .Eq a b) fm ρ (.bool r) s := by
  obtain ⟨e1, e2, rfl⟩ := seqEq_ok h
  obtain ⟨as, ra⟩ := D.reads (outP _ _) ha (an2 e1).1
  obtain ⟨bs, rb⟩ := D.reads (outP _ _) hb (an2 e2).1
  exact op_bool fun Q hQ => eq_dataH ra rb (an2 e1).2 (an2 e2).2 R.c64 (hQ _)
theorem cmp_ne {P P' : Addr → Obj → Prop} {ρ' ρ'' : List Addr} (hP : ∀ a o, P a o → s.heap.get? a = some o) (hP' : ∀ a o, P' a o → s.heap.get? a = some o) {n : Nat} {r : Bool} (R : Rm n A) (ha : Lay P ρ' a x) (hb : Lay P' ρ'' b y) (h : seqEq x y = some r) : Op c A (compareOp .NotEq a b) fm ρ (.bool (!r)) s := by
  obtain ⟨e1, e2, rfl⟩ := seqEq_ok h
  obtain ⟨as, ra⟩ := D.reads hP ha (an2 e1).1
  obtain ⟨bs, rb⟩ := D.reads hP' hb (an2 e2).1
  exact op_bool fun Q hQ => ne_dataH ra rb (an2 e1).2 (an2 e2).2 R.c64 (hQ _)
theorem frzL_ok {P P' : Addr → Obj → Prop} {ρ ρ' : List Addr} {f : D → Option D} (hf : ∀ {v : Value} {d d' : D}, Lay P ρ v d → f d = some d' → Lay P' ρ' v d') {l l' : List D} {vs : List Value} (h : Lays P ρ vs l) (e : frzL f l = some l') : Lays P' ρ' vs l' := by
  induction l generalizing vs l' with
  | nil => rw [h.nilI]; cases e; exact .nil
  | cons d r ih =>
    obtain ⟨v, us, rfl, a, b⟩ := h.consI
    obtain ⟨x, e1, e⟩ := bd_ok e
    obtain ⟨q, e2, rfl⟩ := mp_ok e
    exact .cons (hf a e1) (ih b e2)
theorem frz_ok (W : Wf c fm ρ st s) {P' : Addr → Obj → Prop} {ρ' : List Addr} (h1 : ∀ a o, Out (fm ++ ρ) s.heap a o → P' a o) (h2 : ∀ a o, a ∈ ρ → s.heap.get? a = some o → P' a o) (n : Nat) : ∀ {v : Value} {d d' : D}, LO fm ρ s v d → frz st n d = some d' → Lay P' ρ' v d' := by
  have pure0 : ∀ {v : Value} {d d' : D}, LO fm ρ s v d → (if D.refsLt 0 d = true then some d else none) = some d' → Lay P' ρ' v d' := fun {v d d'} l e => by
    obtain ⟨hr, e⟩ := if_ok e
    cases e
    exact (l.cut hr).mono h1 fun i b e => bad (show none = some b from (List.getElem?_nil (i := i)).symm.trans e)
  induction n with
  | zero => exact pure0
  | succ n ih =>
    intro v d d' l e
    rcases orP_ok e with e | e
    · exact pure0 l e
    rcases orP_ok e with e | e
    · obtain ⟨q, hq, e⟩ := bd_ok e
      obtain ⟨l', e1, rfl⟩ := mp_ok e
      obtain ⟨rfl, hs⟩ := getMl_ok hq
      obtain ⟨a', rfl, hi⟩ := l.refI
      obtain ⟨vs, nn, ho, ls⟩ := W.store _ _ _ hi hs
      exact .lst (n := nn) (h2 _ _ (List.mem_of_getElem? hi) ho) (frzL_ok ih ls e1)
    rcases orP_ok e with e | e
    · obtain ⟨q, hq, e⟩ := bd_ok e
      obtain ⟨l', e1, rfl⟩ := mp_ok e
      rw [dT_ok hq] at l
      obtain ⟨a', vs, nn, rfl, p, r⟩ := l.tupI
      exact .tup (h1 _ _ p) (frzL_ok ih r e1)
    · obtain ⟨q, hq, e⟩ := bd_ok e
      obtain ⟨l', e1, rfl⟩ := mp_ok e
      rw [dL_ok hq] at l
      obtain ⟨a', vs, nn, rfl, p, r⟩ := l.lstI
      exact .lst (h1 _ _ p) (frzL_ok ih r e1)
theorem eqP_ok {n : Nat} {r : Bool} (R : Rm n A) (ha : LO fm ρ s a x) (hb : LO fm ρ s b y) (h : eqP x y = some r) : Op c A (compareOp .Eq a b) fm ρ (.bool r) s := by
  rcases orP_ok h with h | h
  · obtain ⟨i, j, t, u, rfl, rfl, h⟩ := ii_at ha hb h
    cases h; exact op_bool fun Q hQ => eq_int (hQ _)
  rcases orP_ok h with h | h
  · obtain ⟨i, j, t, u, rfl, rfl, h⟩ := ss_at ha hb h
    cases h; exact op_bool fun Q hQ => eq_str (hQ _)
  rcases orP_ok h with h | h
  · obtain ⟨i, j, t, u, rfl, rfl, h⟩ := ff_at ha hb h
    cases h; exact op_bool fun Q hQ => AutoFloatOps.eq_0 (hQ _)
  · exact cmp_eq R ha hb h
theorem neP_ok {n : Nat} {r : Bool} (R : Rm n A) (W : Wf c fm ρ st s) (ha : LO fm ρ s a x) (hb : LO fm ρ s b y) (h : neP st x y = some r) : Op c A (compareOp .NotEq a b) fm ρ (.bool r) s := by
  rcases orP_ok h with h | h
  · obtain ⟨i, j, t, u, rfl, rfl, h⟩ := ii_at ha hb h
    cases h; exact op_bool fun Q hQ => ne_int (hQ _)
  rcases orP_ok h with h | h
  · obtain ⟨i, j, t, u, rfl, rfl, h⟩ := ss_at ha hb h
    cases h; exact op_bool fun Q hQ => ne_str (hQ _)
  rcases orP_ok h with h | h
  · obtain ⟨i, j, h1, h2, h⟩ := two_ok h
    rw [dB_ok h1] at ha
    rw [dB_ok h2] at hb
    rw [ha.boolI, hb.boolI]
    cases h; exact op_bool fun Q hQ => ne_bool (hQ _)
  rcases orP_ok h with h | h
  · obtain ⟨i, j, t, u, rfl, rfl, h⟩ := ff_at ha hb h
    cases h; exact op_bool fun Q hQ => AutoFloatOps.ne_0 (hQ _)
  · obtain ⟨z, hz, h⟩ := bd_ok h
    obtain ⟨q, hq, rfl⟩ := mp_ok h
    exact cmp_ne (P := fun a o => s.heap.get? a = some o) (ρ' := []) (fun _ _ q => q) (outP _ _) R (frz_ok W (fun _ _ q => q.1) (fun _ _ _ q => q) 6 ha hz) hb hq
theorem asList_at {l : List D} (W : Wf c fm ρ st s) (ha : LO fm ρ s a x) (h : asList st x = some l) : ∃ (a' : Addr) (vs : List Value) (n : Nat), a = .ref a' ∧ s.heap.get? a' = some (lstObj vs n) ∧ Lays (Out (fm ++ ρ) s.heap) ρ vs l := by
  rcases orP_ok h with h | h
  · rw [dL_ok h] at ha
    refine nng fun nG => ?_
    obtain ⟨a', vs, n, e, p, r⟩ := ha.lstI
    refine nG ?_
    clear nG
    exact ⟨a', vs, n, e, p.1, r⟩
  · refine nng fun nG => ?_
    obtain ⟨q, hq, rfl⟩ := mp_ok h
    obtain ⟨rfl, hs⟩ := getMl_ok hq
    obtain ⟨a', rfl, hi⟩ := ha.refI
    obtain ⟨vs, n, ho, ls⟩ := W.store _ _ _ hi hs
    refine nG ?_
    clear nG
    exact ⟨a', vs, n, rfl, ho, ls⟩
theorem lst_isList {h : Heap} {a : Addr} {vs : List Value} {n : Nat} (e : h.get? a = some (lstObj vs n)) : h.IsList a vs.toArray := ⟨_, e, rfl, _, rfl⟩
noncomputable def isI (k : Int) (v : Value) : Bool := match v with | .int i _ => i == k | _ => false
noncomputable def isB (k : Bool) (v : Value) : Bool := match v with | .bool i => i == k | _ => false
theorem eqAt_int {n : Nat} (R : Rm n A) (i k : Int) (t u : Tok) : SeqAt.EqAt A.in1 s (.int i t) (.int k u) (i == k) := by
  have := SeqAt.eqAt_reads (.int i) (.int k) A.in1 s _ _ _ _ (Reads.int i t) (Reads.int k u) rfl rfl (by
    have h1 := R.c64
    have h2 : A.in1.units ≤ A.units + 8 := by show A.units + _ ≤ _; lia
    simp only [PyData.depth]
    lia)
  simpa only [PyData.eqv] using this
theorem lays_ints_any {P : Addr → Obj → Prop} {vs : List Value} {ds : List D} {ns : List Int} (h : Lays P ρ vs ds) (e : intsOf ds = some ns) (k : Int) : vs.any (isI k) = ns.any (· == k) ∧ ∀ v ∈ vs, ∃ i t, v = .int i t := by
  induction ds generalizing vs ns with
  | nil => rw [h.nilI]; cases e; exact ⟨rfl, fun v hv => by cases hv⟩
  | cons d ds ih =>
    obtain ⟨v, us, rfl, a, r⟩ := h.consI
    obtain ⟨i, h1, e⟩ := bd_ok e
    obtain ⟨ms, h2, rfl⟩ := mp_ok e
    rw [dI_ok h1] at a
    obtain ⟨t, rfl⟩ := a.intI
    have q := ih r h2
    refine ⟨by rw [List.any_cons, List.any_cons, q.1]; rfl, fun v hv => ?_⟩
    rcases List.mem_cons.mp hv with rfl | hv
    · exact ⟨i, t, rfl⟩
    · exact q.2 v hv
theorem lays_bools {P : Addr → Obj → Prop} {ρ : List Addr} {vs : List Value} {ds : List D} {ns : List Bool} (h : Lays P ρ vs ds) (e : boolsOf ds = some ns) : vs = ns.map Value.bool := by
  induction ds generalizing vs ns with
  | nil => rw [h.nilI]; cases e; rfl
  | cons d ds ih =>
    obtain ⟨v, us, rfl, a, r⟩ := h.consI
    obtain ⟨i, h1, e⟩ := bd_ok e
    obtain ⟨ms, h2, rfl⟩ := mp_ok e
    rw [dB_ok h1] at a
    rw [a.boolI, ih r h2]; rfl
theorem any_bools (bs : List Bool) (k : Bool) : (bs.map Value.bool).toArray.any (isB k) = bs.any (· == k) := by
  rw [List.any_toArray, List.any_map]; rfl
theorem inInt_at {n : Nat} {r : Bool} (R : Rm n A) (W : Wf c fm ρ st s) (ha : LO fm ρ s a x) (hb : LO fm ρ s b y) (h : inInt st x y = some r) : ∃ (k : Int) (t : Tok) (a' : Addr) (vs : List Value), a = .int k t ∧ b = .ref a' ∧ s.heap.IsList a' vs.toArray ∧ (∀ y, y ∈ vs.toArray → SeqAt.EqAt A.in1 s y (.int k t) (isI k y)) ∧ vs.toArray.any (isI k) = r := by
  refine nng fun nG => ?_
  obtain ⟨k, h1, h⟩ := bd_ok h
  obtain ⟨l, h2, h⟩ := bd_ok h
  obtain ⟨ns, h3, rfl⟩ := mp_ok h
  rw [dI_ok h1] at ha
  obtain ⟨t, rfl⟩ := ha.intI
  obtain ⟨a', vs, m, rfl, ho, ls⟩ := asList_at W hb h2
  obtain ⟨q1, q2⟩ := lays_ints_any ls h3 k
  refine nG ?_
  clear nG
  refine ⟨k, t, a', vs, rfl, rfl, lst_isList ho, fun y hy => ?_, by rw [List.any_toArray, q1]⟩
  obtain ⟨i, u, rfl⟩ := q2 y (List.mem_toArray.mp hy)
  exact eqAt_int R i k u t
theorem inP_ok {n : Nat} {r : Bool} (R : Rm n A) (W : Wf c fm ρ st s) (ha : LO fm ρ s a x) (hb : LO fm ρ s b y) (h : inP st x y = some r) : Op c A (compareOp .In a b) fm ρ (.bool r) s := by
  rcases orP_ok h with h | h
  · obtain ⟨i, j, t, u, rfl, rfl, h⟩ := ss_at ha hb h
    cases h; exact op_bool fun Q hQ => P.in_str (hQ _)
  rcases orP_ok h with h | h
  · refine nng fun nG => ?_
    obtain ⟨k, l, h1, h2, h⟩ := two_ok h
    refine nG ?_
    clear nG
    rw [dB_ok h1] at ha
    rw [dL_ok h2] at hb
    rw [ha.boolI]
    obtain ⟨a', vs, m, rfl, p, ls⟩ := hb.lstI
    obtain ⟨bs, h3, rfl⟩ := mp_ok h
    cases lays_bools ls h3
    refine op_bool fun Q hQ => SeqAt.in_listAt (isB k) (lst_isList p.1) (fun y hy => ?_) ?_
    · obtain ⟨i, _, rfl⟩ := List.mem_map.mp (List.mem_toArray.mp hy)
      exact SeqAt.EqAt.bool_bool i k
    · rw [any_bools]; exact hQ _
  · obtain ⟨k, t, a', vs, rfl, rfl, hl, he, rfl⟩ := inInt_at R W ha hb h
    exact op_bool fun Q hQ => SeqAt.in_listAt (isI k) hl he (hQ _)
theorem ninP_ok {n : Nat} {r : Bool} (R : Rm n A) (W : Wf c fm ρ st s) (ha : LO fm ρ s a x) (hb : LO fm ρ s b y) (h : (inInt st x y).map (!·) = some r) : Op c A (compareOp .NotIn a b) fm ρ (.bool r) s := by
  obtain ⟨r', h', rfl⟩ := mp_ok h
  obtain ⟨k, t, a', vs, rfl, rfl, hl, he, rfl⟩ := inInt_at R W ha hb h'
  exact op_bool fun Q hQ => SeqAt.notIn_listAt (isI k) hl he (hQ _)
theorem cmpP_ok {op : CmpOp} {n : Nat} {r : Bool} (R : Rm n A) (W : Wf c fm ρ st s) (ha : LO fm ρ s a x) (hb : LO fm ρ s b y) (h : cmpP st op x y = some r) : Op c A (compareOp op a b) fm ρ (.bool r) s := by
  cases op with
  | Eq => exact eqP_ok R ha hb h
  | NotEq => exact neP_ok R W ha hb h
  | Lt =>
    rcases orP_ok h with h | h
    · obtain ⟨i, j, t, u, rfl, rfl, h⟩ := ii_at ha hb h
      cases h; exact op_bool fun Q hQ => PyProof.Rows.lt_int (hQ _)
    · obtain ⟨i, j, t, u, rfl, rfl, h⟩ := ff_at ha hb h
      cases h; exact op_bool fun Q hQ => AutoFloatOps.lt_0 (hQ _)
  | LtE =>
    rcases orP_ok h with h | h
    · obtain ⟨i, j, t, u, rfl, rfl, h⟩ := ii_at ha hb h
      cases h; exact op_bool fun Q hQ => PyProof.Rows.le_int (hQ _)
    · obtain ⟨i, j, t, u, rfl, rfl, h⟩ := ff_at ha hb h
      cases h; exact op_bool fun Q hQ => AutoFloatOps.le_0 (hQ _)
  | Gt =>
    rcases orP_ok h with h | h
    · obtain ⟨i, j, t, u, rfl, rfl, h⟩ := ii_at ha hb h
      cases h; exact op_bool fun Q hQ => PyProof.Rows.gt_int (hQ _)
    · obtain ⟨i, j, t, u, rfl, rfl, h⟩ := ss_at ha hb h
      cases h; exact op_bool fun Q hQ => P.gt_str (hQ _)
  | GtE =>
    rcases orP_ok h with h | h
    · obtain ⟨i, j, t, u, rfl, rfl, h⟩ := ii_at ha hb h
      cases h; exact op_bool fun Q hQ => PyProof.Rows.ge_int (hQ _)
    · obtain ⟨i, j, t, u, rfl, rfl, h⟩ := ss_at ha hb h
      cases h; exact op_bool fun Q hQ => P.ge_str (hQ _)
  | In => exact inP_ok R W ha hb h
  | NotIn => exact ninP_ok R W ha hb h
  | _ => exact bad h
end
end Mine.Internal
end
section
open PySem PySem.W PySem.Calls PyProof.Rows
set_option Elab.async false
set_option linter.unusedVariables false
namespace Mine.Internal

section
variable {c : Cx} {A : Around} {fm ρ : List Addr} {st : Store} {s : Shared} {a b : Value} {x y d : D}

structure ListAt (h : Heap) (ms ρ : List Addr) (v : Value) (l : List D) : Prop where
  ex : ∃ (a : Addr) (vs : List Value), v = .ref a ∧ h.IsList a vs.toArray ∧ Lays (Out ms h) ρ vs l
theorem listAt_of {l : List D} (W : Wf c fm ρ st s) (ha : LO fm ρ s a x) (h : asList st x = some l) : ListAt s.heap (fm ++ ρ) ρ a l :=
  let ⟨_, _, _, e, p, r⟩ := asList_at W ha h
  ⟨_, _, e, lst_isList p, r⟩

theorem tail_op {value slice : Expr} {T id : String} {ops : List Value} (hT : s.TypeIs a T) (hl : typeLookup (.type T) "__getitem__" = pure (some (.builtin id)))
    (hs : subscripted slice false a b = operate ops (getItem a b)) (h : Op c A (getItem a b) fm ρ d s) : Op c A (subscriptTail value slice a b) fm ρ d s :=
  fun Q hQ => tail_any hT hl (h Q hQ) hs

theorem lid63 {i : Int} (h : i.natAbs ≤ lid) : (decide (i < -(2 ^ 63 : Int)) || decide (i ≥ 2 ^ 63)) = false := by
  have e : lid = 1048576 := rfl
  have h1 : ¬ i < -(2 ^ 63 : Int) := by omega
  have h2 : ¬ i ≥ 2 ^ 63 := by omega
  rw [decide_eq_false h1, decide_eq_false h2]; rfl
theorem lid63' {i : Int} (h : i.natAbs ≤ lid) : i < 2 ^ 63 := by have e : lid = 1048576 := rfl; omega

theorem item_list {value slice : Expr} {l : List D} {i : Int} {t : Tok} (h : ListAt s.heap (fm ++ ρ) ρ a l) (h0 : 0 ≤ i) (hi : i.natAbs ≤ lid) (e : l[i.toNat]? = some d)
    (hs : subscripted slice false a (.int i t) = operate [a, .int i t] (getItem a (.int i t))) : Op c A (subscriptTail value slice a (.int i t)) fm ρ d s := by
  obtain ⟨l', vs, rfl, ho, hl⟩ := h.ex
  obtain ⟨v, hv, lv⟩ := hl.get e
  exact tail_op ho.typeIs slot_list_getitem.lookup hs fun Q hQ =>
    wpAny_getItem_list ho h0 (lid63' hi) (by simpa using hv) (hQ v s (kp_rfl s) lv)

theorem okIdx_ok {i : Int} (h : okIdx i = true) : 0 ≤ i ∧ i.natAbs ≤ lid := ⟨of_decide_eq_true (an2 h).1, of_decide_eq_true (an2 h).2⟩
theorem item_tup {value slice : Expr} {l : List D} {i : Int} {t : Tok} (ha : LO fm ρ s a (.tup l)) (h0 : 0 ≤ i) (hi : i.natAbs ≤ lid) (h : l[i.toNat]? = some d) (hs : subscripted slice false a (.int i t) = operate [a, .int i t] (getItem a (.int i t))) : Op c A (subscriptTail value slice a (.int i t)) fm ρ d s := by
  obtain ⟨ta, vs, n, rfl, p, r⟩ := ha.tupI
  obtain ⟨v, hv, lv⟩ := r.get h
  have hj : seqIndex? i vs.length = some i.toNat := by
    have := (List.getElem?_eq_some_iff.mp hv).1
    unfold seqIndex?
    have e1 : ¬ i < 0 := by omega
    simp only [e1, if_false]
    have e2 : (decide (0 ≤ i) && decide (i < (vs.length : Int))) = true := by
      rw [decide_eq_true h0, decide_eq_true (by omega)]; rfl
    rw [if_pos e2]
  have hT : IsTup s.heap ta vs.toArray := ⟨_, p.1, rfl, n, rfl⟩
  exact fun Q hQ => item_tupleT hT (by have e : lid = 1048576 := rfl; omega) (lid63' hi) hj hv (hQ v s (kp_rfl s) lv) hs
theorem idxP_ok {value slice : Expr} (W : Wf c fm ρ st s) (ha : LO fm ρ s a x) (hb : LO fm ρ s b y) (h : idxP st x y = some d)
    (hs : subscripted slice false a b = operate [a, b] (getItem a b)) : Op c A (subscriptTail value slice a b) fm ρ d s := by
  obtain ⟨i, h1, h⟩ := bd_ok h
  rw [dI_ok h1] at hb
  obtain ⟨t, rfl⟩ := hb.intI
  rcases orP_ok h with h | h
  · obtain ⟨z, h2, h⟩ := bd_ok h
    rw [dS_ok h2] at ha
    obtain ⟨u, rfl⟩ := ha.strI
    obtain ⟨hi, h⟩ := if_ok h
    obtain ⟨cc, h1, h2⟩ := mp_ok h
    subst h2
    exact tail_op (typeIs_str s _ _) F.slot_str_getitem.lookup hs fun Q hQ => getItem_str (lid63 hi) h1 (hQ _ _ (kp_tok s _) (.str _ _))
  · obtain ⟨hi, h⟩ := if_ok h
    obtain ⟨h0, hi⟩ := okIdx_ok hi
    obtain ⟨l, h2, h⟩ := bd_ok h
    rcases orP_ok h2 with h2 | h2
    · rw [dT_ok h2] at ha
      exact item_tup ha h0 hi h hs
    · exact item_list (listAt_of W ha h2) h0 hi h hs

theorem neg_ok {i : Int} (ha : Lay (Out (fm ++ ρ) s.heap) ρ a (.int i)) : Op c A (unaryOp .USub a) fm ρ (.int (-i)) s := by
  obtain ⟨t, rfl⟩ := ha.intI
  exact op_int fun Q hQ => neg_int (hQ _ _)

inductive PartAt : Value → Option Int → Prop
  | none : PartAt .none .none
  | int (i : Int) (t : Tok) : PartAt (.int i t) (some i)
theorem PartAt.is {v : Value} {o : Option Int} (h : PartAt v o) : IsPart v o := by cases h <;> constructor
theorem PartAt.part {v : Value} {o : Option Int} (h : PartAt v o) : ∃ l : Option (Int × Tok), v = partValue l ∧ l.map (·.1) = o := by
  cases h with
  | none => exact ⟨.none, rfl, rfl⟩
  | int i t => exact ⟨some (i, t), rfl, rfl⟩

noncomputable def LayO (P : Addr → Obj → Prop) (ρ : List Addr) : Value → Option D → Prop
  | v, .none => v = .none
  | v, some d => Lay P ρ v d
theorem LayO.partI {P : Addr → Obj → Prop} {v : Value} {o : Option D} {q : Option Int} (h : LayO P ρ v o) (e : partI o = some q) : PartAt v q := by
  cases o with
  | none => cases e; rw [show v = .none from h]; exact .none
  | some d =>
    obtain ⟨i, h1, rfl⟩ := mp_ok (show (dI d).map some = some q from e)
    have h : Lay P ρ v d := h
    rw [dI_ok h1] at h
    obtain ⟨t, rfl⟩ := h.intI
    exact .int _ _

theorem slcP_ok {value : Expr} {lower upper : Option Expr} {p : Pos} {vl vu : Value} {lo hi : Option D} (ha : Lay (Out (fm ++ ρ) s.heap) ρ a x) (hl : LayO (Out (fm ++ ρ) s.heap) ρ vl lo) (hu : LayO (Out (fm ++ ρ) s.heap) ρ vu hi)
    (W : Wf c fm ρ st s) (h : slcP x lo hi = some d) (Q : Value → Shared → Prop) (hQ : ∀ v s', Keeps s s' → Lay (Out (fm ++ ρ) s'.heap) ρ v d → Q v s') :
    wpAny (model c.prog c.w) A (subscriptTail value (.Slice lower upper none p) a (.ref s.heap.objs.size)) Q (fun _ _ => False) { s with heap := s.heap.push { cls := .type "slice", data := .fields #[vl, vu, .none] } } := by
  rcases orP_ok h with h | h
  · refine nng fun nG => ?_
    obtain ⟨x, h1, h⟩ := bd_ok h
    rw [dS_ok h1] at ha
    obtain ⟨t, rfl⟩ := ha.strI
    obtain ⟨hx, h⟩ := if_ok h
    obtain ⟨q1, e1, h⟩ := bd_ok h
    obtain ⟨q2, e2, h⟩ := bd_ok h
    cases h
    obtain ⟨l, rfl, rfl⟩ := (hl.partI e1).part
    obtain ⟨u, rfl, rfl⟩ := (hu.partI e2).part
    refine nG ?_
    clear nG
    refine tail_any (T := "str") (typeIs_str _ _ _) F.slot_str_getitem.lookup (wpAny_getItem_str_slice (l := l) (u := u) (st := none) ⟨_, Heap.get?_push_size _ rfl, rfl, rfl⟩ rfl ?_) rfl
    exact post_val_or_str ⟨Nat.le_trans (Txt.slice_le _ _ _) (lid_size hx), fun t' k => hQ _ _ (kp_mk fun b o e => Heap.get?_push_of_some _ e) (.str _ _)⟩
  · refine nng fun nG => ?_
    obtain ⟨l, h1, h⟩ := bd_ok h
    rw [dL_ok h1] at ha
    obtain ⟨hlo, h⟩ := if_ok h
    obtain ⟨i, h2, h⟩ := bd_ok h
    obtain ⟨e, h3, h2⟩ := bd_ok h2
    obtain ⟨hi2, h⟩ := if_ok h
    cases h
    obtain ⟨la, vs, n, rfl, p, hls⟩ := ha.lstI
    refine nG ?_
    clear nG
    have hlen := hls.length
    have hIs := lst_isList p.1
    have pu : PartAt vu (some i) := hu.partI (by rw [h3]; exact congrArg (Option.map some) h2)
    have pl : PartAt vl none := hl.partI (by rw [Option.isNone_iff_eq_none.mp hlo]; rfl)
    have hn : i = (i.toNat : Int) := (Int.toNat_of_nonneg hi2.1).symm
    have hb : i.toNat ≤ vs.toArray.size := by rw [List.size_toArray, hlen]; exact hi2.2.1
    refine tail_any (T := "list") (hIs.push _).typeIs slot_list_getitem.lookup (wpAny_getItem_list_slice (lo := none) (hi := some i) (st := none) (hIs.push _) (Heap.IsSliceOf.new ..) pl.is pu.is .none (by simp) ?_ (by rw [List.size_toArray, hlen]; exact lid_size hi2.2.2)) rfl
    rw [hn, slicePick_upto vs.toArray i.toNat hb]
    have e9 : (vs.toArray.toList.take i.toNat).toArray = (vs.take i.toNat).toArray := rfl
    rw [e9]
    have h9 := Heap.get?_push_size (s.heap.push { cls := .type "slice", data := .fields #[vl, vu, .none] }) (o := lstObj (vs.take i.toNat) 0) rfl
    have k9 : ∀ b o, s.heap.get? b = some o → ((s.heap.push { cls := .type "slice", data := .fields #[vl, vu, .none] }).push (lstObj (vs.take i.toNat) 0)).get? b = some o := fun b o e => Heap.get?_push_of_some _ (Heap.get?_push_of_some _ e)
    have n9 : s.heap.get? (s.heap.push { cls := .type "slice", data := .fields #[vl, vu, .none] }).objs.size = none := by
      rw [Heap.size_push]
      cases e : s.heap.get? (s.heap.objs.size + 1) with
      | none => rfl
      | some o => exact absurd (Heap.lt_size e) (Nat.not_lt.mpr (Nat.le_succ _))
    generalize (s.heap.push { cls := .type "slice", data := .fields #[vl, vu, .none] }) = h1 at h9 k9 n9 ⊢
    have k : Keeps s { s with heap := h1.push (lstObj (vs.take i.toNat) 0) } := kp_mk k9
    exact hQ _ _ k (.lst (n := 0) (vs := vs.take i.toNat) (W.out_new n9 h9) ((kp_adv k ρ).lays (hls.take _)))
end
end Mine.Internal
end
section
open PySem PySem.W PySem.Calls PyProof.Rows PySem.Builtin PySem.Builtin.Str
set_option Elab.async false
set_option linter.unusedVariables false
namespace Mine.Internal

section
variable {prog : Program} {w : World} {A : Around} {E : Value → Shared → Prop} {s : Shared}
theorem split_push {x y : Str} {t u : Tok} {Q : Value → Shared → Prop} (hy : (y.length == 0) = false)
    (h : ∀ l k, l.map (·.1) = Txt.split x y → Q (.ref s.heap.objs.size) { s with heap := s.heap.push { cls := .type "list", data := .seq (strValues l).toArray }, toks := k }) (hsz : x.length + 2 ≤ sizeLine) :
    wpAny (model prog w) A (call (.builtin "str.split") [.str x t, .str y u]) Q E s := by
  have hn : (partsBetween x (occurrences x y 0 x.length (x.length + 1)) y.length).length ≤ sizeLine := by
    have e1 := StrLaws.occ_length_le x y 0 x.length (x.length + 1)
    rw [length_partsBetween]; lia
  cases h1 : (decide (x.length < y.length) || decide (strKind x < strKind y))
  · cases hf : (occurrences x y 0 x.length (x.length + 1)).isEmpty
    · refine call_meets F.slot_str_split (typeIs_str _ _ _) F.entry_str_split (F.args_str_split_2 _ _) (meets_str_split_sep x y t u h1 hy hf (by lia) hn) ?_
      show wants Q E _ { s with toks := _, heap := s.heap.push { cls := .type "list", data := .seq (strsFrom s.toks (partsBetween x (occurrences x y 0 x.length (x.length + 1)) y.length)).toArray } }
      rw [strsFrom_eq]
      exact h (numbered s.toks _) _ ((numbered_texts _ _).trans ((if_neg (ne_true_of_eq_false h1)).trans (if_neg (ne_true_of_eq_false hf))).symm)
    · exact call_meets F.slot_str_split (typeIs_str _ _ _) F.entry_str_split (F.args_str_split_2 _ _) (meets_str_split_not_found x y t u h1 hy hf)
        (h [(x, t)] s.toks ((if_neg (ne_true_of_eq_false h1)).trans (if_pos hf)).symm)
  · exact call_meets F.slot_str_split (typeIs_str _ _ _) F.entry_str_split (F.args_str_split_2 _ _) (meets_str_split_cannot_occur x y t u h1)
      (h [(x, t)] s.toks (if_pos h1).symm)
theorem lays_strs {P : Addr → Obj → Prop} {ρ : List Addr} : ∀ l : List (Str × Tok), Lays P ρ (strValues l) ((l.map (·.1)).map D.str)
  | [] => .nil
  | p :: r => .cons (.str _ _) (lays_strs r)

theorem preSum_sum (ns : List Int) : ∀ j, preSum (fun i => ns.getD i 0) j = (ns.take j).sum
  | 0 => by simp [preSum]
  | j + 1 => by
    rw [preSum, preSum_sum ns j, List.take_add_one, List.sum_append]
    congr 1
    cases e : ns[j]? <;> simp [List.getD_eq_getElem?_getD, e]
theorem sum_keeps {l : Addr} {vs : List Value} {ns : List Int} {Q : Value → Shared → Prop} (hh : A.handled = none) (hl : s.heap.IsList l vs.toArray) (hi : IntsAre vs ns)
    (h : ∀ h' tk t', (∀ b o, s.heap.get? b = some o → h'.get? b = some o) → Q (.int ns.sum t') { s with heap := h', toks := tk }) : wpAny (model prog w) A (call (.builtin "sum") [.ref l]) Q E s := by
  have hlt : l < s.heap.objs.size := by obtain ⟨_, e, _⟩ := hl; exact Heap.lt_size e
  refine call_sum_walkG (wpAny_pyIter_list hl ?_)
  refine ⟨s.heap.objs.size, [s.heap.objs.size, l], [s.heap.objs.size], vs.toArray.size, _, _, fun i => ns.getD i 0, rfl, Walks.list (A := A.in1) hh _ l (Nat.ne_of_lt hlt) vs.toArray,
    ⟨⟨_, Heap.get?_push_size _ rfl, rfl, rfl⟩, hl.push _⟩, ?_, ?_, ?_⟩
  · intro b hb
    show b < (s.heap.push _).objs.size
    rw [Heap.size_push]
    rcases List.mem_cons.mp hb with rfl | hb
    · exact Nat.lt_succ_self _
    · rw [List.mem_singleton.mp hb]; exact Nat.lt_succ_of_lt hlt
  · intro i v hv
    have hv' : vs[i]? = some v := by simpa using hv
    have hi' : i < ns.length := by rw [← hi.length]; exact (List.getElem?_eq_some_iff.mp hv').1
    obtain ⟨t, hx⟩ := hi.get i (ns[i]'hi') (List.getElem?_eq_getElem hi')
    rw [hx] at hv'
    cases hv'
    exact ⟨t, by simp [List.getD_eq_getElem?_getD, hi']⟩
  · intro h' tk t' hk
    rw [preSum_sum, List.size_toArray, hi.length, List.take_length]
    exact h h' tk t' fun b o e => hk b o (by rw [List.mem_singleton]; exact Nat.ne_of_lt (Heap.lt_size e)) (Heap.get?_push_of_some _ e)

theorem min_is {ns : List Int} {M m : Int} (h : ns.min? = some m) (h1 : M ∈ ns) (h2 : ∀ a ∈ ns, M ≤ a) : M = m := by
  obtain ⟨q1, q2⟩ := List.min?_eq_some_iff.mp h
  exact Int.le_antisymm (h2 _ q1) (q2 _ h1)
theorem max_is {ns : List Int} {M m : Int} (h : ns.max? = some m) (h1 : M ∈ ns) (h2 : ∀ a ∈ ns, a ≤ M) : M = m := by
  obtain ⟨q1, q2⟩ := List.max?_eq_some_iff.mp h
  exact Int.le_antisymm (q2 _ h1) (h2 _ q1)
theorem min_keeps {l : Addr} {vs : List Value} {ns : List Int} {m : Int} {Q : Value → Shared → Prop} (hh : A.handled = none) (hl : s.heap.IsList l vs.toArray) (hi : IntsAre vs ns) (hm : ns.min? = some m)
    (h : ∀ h' tk t', (∀ b o, s.heap.get? b = some o → h'.get? b = some o) → Q (.int m t') { s with heap := h', toks := tk }) : wpAny (model prog w) A (call (.builtin "min") [.ref l]) Q E s := by
  have hne : 0 < ns.length := by cases ns with | nil => simp at hm | cons => simp
  obtain ⟨xs, e⟩ := hi.allInts.items
  have hns : ns = xs.toList.map (·.1) := by rw [← hi.numsOf, ← nums_intItems, ← e]
  have hsz : 0 < xs.size := by have h3 := hne; rw [hns, List.length_map, Array.length_toList] at h3; exact h3
  rw [e] at hl
  refine min_intList hh hl hsz fun v h' tk hv hk => ?_
  obtain ⟨t, rfl⟩ := intItems_at hv
  obtain ⟨h1, h2⟩ := argBest_lt (numAt xs) (xs.size - 1)
  have hM := min_is (M := numAt xs (argBest (fun i j => decide (numAt xs i < numAt xs j)) (xs.size - 1))) hm (by rw [hns, numAt_eq]; exact PySem.getD_mem (by rw [List.length_map, Array.length_toList]; lia)) (fun a ha => by
    rw [hns] at ha
    obtain ⟨j, hj, rfl⟩ := mem_getD ha
    rw [List.length_map, Array.length_toList] at hj
    rw [← numAt_eq]; exact h2 j (by lia))
  rw [hM]
  exact h h' tk t hk
theorem max_keeps {l : Addr} {vs : List Value} {ns : List Int} {m : Int} {Q : Value → Shared → Prop} (hh : A.handled = none) (hl : s.heap.IsList l vs.toArray) (hi : IntsAre vs ns) (hm : ns.max? = some m)
    (h : ∀ h' tk t', (∀ b o, s.heap.get? b = some o → h'.get? b = some o) → Q (.int m t') { s with heap := h', toks := tk }) : wpAny (model prog w) A (call (.builtin "max") [.ref l]) Q E s := by
  have hne : 0 < ns.length := by cases ns with | nil => simp at hm | cons => simp
  obtain ⟨xs, e⟩ := hi.allInts.items
  have hns : ns = xs.toList.map (·.1) := by rw [← hi.numsOf, ← nums_intItems, ← e]
  have hsz : 0 < xs.size := by have h3 := hne; rw [hns, List.length_map, Array.length_toList] at h3; exact h3
  rw [e] at hl
  refine max_intList hh hl hsz fun v h' tk hv hk => ?_
  obtain ⟨t, rfl⟩ := intItems_at hv
  obtain ⟨h1, h2⟩ := argBest_gt (numAt xs) (xs.size - 1)
  have hM := max_is (M := numAt xs (argBest (fun i j => decide (numAt xs i > numAt xs j)) (xs.size - 1))) hm (by rw [hns, numAt_eq]; exact PySem.getD_mem (by rw [List.length_map, Array.length_toList]; lia)) (fun a ha => by
    rw [hns] at ha
    obtain ⟨j, hj, rfl⟩ := mem_getD ha
    rw [List.length_map, Array.length_toList] at hj
    rw [← numAt_eq]; exact h2 j (by lia))
  rw [hM]
  exact h h' tk t hk

theorem max3_num {a b d : Value} {Q : Value → Shared → Prop} (hh : A.handled = none) (ha : Flt.NumV a) (hb : Flt.NumV b) (hd : Flt.NumV d)
    (h : ∀ h' tk, (∀ c o, s.heap.get? c = some o → h'.get? c = some o) → Q (if Flt.ltV (if Flt.ltV a b then b else a) d then d else if Flt.ltV a b then b else a) { s with heap := h', toks := tk }) :
    wpAny (model prog w) A (call (.builtin "max") [a, b, d]) Q E s := by
  have hT : (s.heap.push { cls := .type "tuple", data := .seq #[a, b, d] }).IsTuple s.heap.objs.size #[a, b, d] := ⟨_, Heap.get?_push_size _ rfl, rfl, 0, rfl⟩
  refine call_max_three (wpAny_pyIter_tuple hT ?_)
  have hsz : (s.heap.push { cls := .type "tuple", data := .seq #[a, b, d] }).objs.size = s.heap.objs.size + 1 := Heap.size_push ..
  refine ⟨_, [_, s.heap.objs.size], [_], _, _, _, _, rfl, Walks.tuple (A := A.in1) hh _ s.heap.objs.size (by rw [hsz]; exact Nat.ne_of_lt (Nat.lt_succ_self _)) #[a, b, d],
    ⟨⟨_, Heap.get?_push_size _ rfl, rfl, rfl⟩, hT.push _⟩, fun c hc => ?_, by simp, Flt.cmpOf_gt #[a, b, d] (by simp [ha, hb, hd]), fun v h' tk hP hk => ?_⟩
  · show c < ((s.heap.push _).push _).objs.size
    rw [Heap.size_push, hsz]
    rcases List.mem_cons.mp hc with rfl | hc
    · rw [hsz]; exact Nat.lt_succ_self _
    · rcases List.mem_cons.mp hc with rfl | hc
      · exact Nat.lt_succ_of_lt (Nat.lt_succ_self _)
      · cases hc
  · have hold : ∀ c o, s.heap.get? c = some o → h'.get? c = some o := fun c o e => by
      refine hk c o (fun hm => ?_) (Heap.get?_push_of_some _ (Heap.get?_push_of_some _ e))
      rcases List.mem_cons.mp hm with e1 | hm
      · have := Heap.lt_size e; rw [e1, hsz] at this; exact Nat.lt_irrefl _ (Nat.lt_of_succ_lt this)
      · cases hm
    have := h h' tk hold
    have hv : v = if Flt.ltV (if Flt.ltV a b then b else a) d then d else if Flt.ltV a b then b else a := by
      cases hc : Flt.ltV a b
      · cases hc2 : Flt.ltV a d <;> simp [argBest, hc, hc2] at hP <;> simp only [Bool.false_eq_true, if_false, if_true, hc2] <;> exact hP.symm
      · cases hc2 : Flt.ltV b d <;> simp [argBest, hc, hc2] at hP <;> simp only [Bool.false_eq_true, if_false, if_true, hc2] <;> exact hP.symm
    rw [hv]; exact this
theorem min3_num {a b d : Value} {Q : Value → Shared → Prop} (hh : A.handled = none) (ha : Flt.NumV a) (hb : Flt.NumV b) (hd : Flt.NumV d)
    (h : ∀ h' tk, (∀ c o, s.heap.get? c = some o → h'.get? c = some o) → Q (if Flt.ltV d (if Flt.ltV b a then b else a) then d else if Flt.ltV b a then b else a) { s with heap := h', toks := tk }) :
    wpAny (model prog w) A (call (.builtin "min") [a, b, d]) Q E s := by
  have hT : (s.heap.push { cls := .type "tuple", data := .seq #[a, b, d] }).IsTuple s.heap.objs.size #[a, b, d] := ⟨_, Heap.get?_push_size _ rfl, rfl, 0, rfl⟩
  refine call_min_three (wpAny_pyIter_tuple hT ?_)
  have hsz : (s.heap.push { cls := .type "tuple", data := .seq #[a, b, d] }).objs.size = s.heap.objs.size + 1 := Heap.size_push ..
  refine ⟨_, [_, s.heap.objs.size], [_], _, _, _, _, rfl, Walks.tuple (A := A.in1) hh _ s.heap.objs.size (by rw [hsz]; exact Nat.ne_of_lt (Nat.lt_succ_self _)) #[a, b, d],
    ⟨⟨_, Heap.get?_push_size _ rfl, rfl, rfl⟩, hT.push _⟩, fun c hc => ?_, by simp, Flt.cmpOf_lt #[a, b, d] (by simp [ha, hb, hd]), fun v h' tk hP hk => ?_⟩
  · show c < ((s.heap.push _).push _).objs.size
    rw [Heap.size_push, hsz]
    rcases List.mem_cons.mp hc with rfl | hc
    · rw [hsz]; exact Nat.lt_succ_self _
    · rcases List.mem_cons.mp hc with rfl | hc
      · exact Nat.lt_succ_of_lt (Nat.lt_succ_self _)
      · cases hc
  · have hold : ∀ c o, s.heap.get? c = some o → h'.get? c = some o := fun c o e => by
      refine hk c o (fun hm => ?_) (Heap.get?_push_of_some _ (Heap.get?_push_of_some _ e))
      rcases List.mem_cons.mp hm with e1 | hm
      · have := Heap.lt_size e; rw [e1, hsz] at this; exact Nat.lt_irrefl _ (Nat.lt_of_succ_lt this)
      · cases hm
    have := h h' tk hold
    have hv : v = if Flt.ltV d (if Flt.ltV b a then b else a) then d else if Flt.ltV b a then b else a := by
      cases hc : Flt.ltV b a
      · cases hc2 : Flt.ltV d a <;> simp [argBest, hc, hc2] at hP <;> simp only [Bool.false_eq_true, if_false, if_true, hc2] <;> exact hP.symm
      · cases hc2 : Flt.ltV d b <;> simp [argBest, hc, hc2] at hP <;> simp only [Bool.false_eq_true, if_false, if_true, hc2] <;> exact hP.symm
    rw [hv]; exact this
end

noncomputable def Fn.val : Fn → Value
  | .len => .builtin "len"
  | .minL | .min2 | .min3 => .builtin "min"
  | .maxL | .max2 | .max3 => .builtin "max"
  | .intF => .type "int"
  | .sumL => .builtin "sum"
  | .range1 | .range3 => .type "range"
  | .strI => .type "str"
  | .intS => .type "int"
  | .sorted => .builtin "sorted"
noncomputable def Fn.name : Fn → Str
  | .len => "len"
  | .minL | .min2 | .min3 => "min"
  | .maxL | .max2 | .max3 => "max"
  | .intF => "int"
  | .sumL => "sum"
  | .range1 | .range3 => "range"
  | .strI => "str"
  | .intS => "int"
  | .sorted => "sorted"
noncomputable def Me.val : Me → String
  | .count => "str.count"
  | .index => "str.index"
  | .join => "str.join"
  | .split => "str.split"
noncomputable def Me.name : Me → Str
  | .count => "count"
  | .index => "index"
  | .join => "join"
  | .split => "split"

section
variable {c : Cx} {A : Around} {fm ρ : List Addr} {st : Store} {s : Shared} {a b : Value} {x y d : D} {n : Nat}

theorem op_keeps {t : Sem Value} {d : D} (W : Wf c fm ρ st s)
    (h : ∀ Q : Value → Shared → Prop, (∀ v h' tk, (∀ b o, s.heap.get? b = some o → h'.get? b = some o) → (∀ P : Addr → Obj → Prop, Lay P ρ v d) → Q v { s with heap := h', toks := tk }) → wpAny (model c.prog c.w) A t Q (fun _ _ => False) s) : Op c A t fm ρ d s :=
  fun Q hQ => h Q fun v h' tk k l => hQ v _ (kp_mk k) (l _)
theorem len_ok {l : List D} (h : ListAt s.heap (fm ++ ρ) ρ a l) (hn : l.length ≤ lid) : Op c A (call (.builtin "len") [a]) fm ρ (.int l.length) s := by
  obtain ⟨l', vs, rfl, ho, hl⟩ := h.ex
  have e : lid = 1048576 := rfl
  refine op_int fun Q hQ => call_len_list ho ?_ ?_
  · rw [List.size_toArray, hl.length]; lia
  · rw [List.size_toArray, hl.length]; exact hQ _ _

end
end Mine.Internal
end
section
open PySem PySem.W PySem.Calls PyProof.Rows
set_option Elab.async false
set_option linter.unusedVariables false
namespace Mine.Internal

noncomputable def kev {α : Type} (lt : Nat → Nat → Bool) : KasT α → α
  | .ret a => a
  | .ask i j k => kev lt (k (lt i j))
theorem kev_bind {α β : Type} (lt : Nat → Nat → Bool) (f : α → KasT β) : ∀ t : KasT α, kev lt (t.bind f) = kev lt (f (kev lt t))
  | .ret _ => rfl
  | .ask i j k => kev_bind lt f (k (lt i j))

section
variable {O : KeyOrd} {K : Nat → O.α} {p q : Array Nat}
noncomputable def kk (K : Nat → O.α) (p : Array Nat) (i : Nat) : O.α := K (p.getD i 0)
noncomputable abbrev olt (K : Nat → O.α) (i j : Nat) : Bool := O.blt (K i) (K j)
noncomputable def Up (K : Nat → O.α) (p : Array Nat) (k : Nat) : Prop := ∀ i j, i ≤ j → j < k → O.kle (kk K p i) (kk K p j)
noncomputable def Dn (K : Nat → O.α) (p : Array Nat) (k : Nat) : Prop := ∀ i j, i ≤ j → j < k → O.kle (kk K p j) (kk K p i)

theorem kk_congr {i j : Nat} (h : p[i]? = q[j]?) : kk K p i = kk K q j := by
  unfold kk
  rw [Array.getD_eq_getD_getElem?, Array.getD_eq_getD_getElem?, h]
theorem kk_bubble {src d : Nat} (hs : src < p.size) (hd : d ≤ src) (k : Nat) :
    kk K (bubble p src d) k = if k = src - d then kk K p src else if src - d < k ∧ k ≤ src then kk K p (k - 1) else kk K p k := by
  have e := getElem?_bubble hs d hd k
  by_cases h1 : k = src - d
  · rw [if_pos h1] at e ⊢; exact kk_congr e
  · rw [if_neg h1] at e ⊢
    by_cases h2 : src - d < k ∧ k ≤ src
    · rw [if_pos h2] at e ⊢; exact kk_congr e
    · rw [if_neg h2] at e ⊢; exact kk_congr e
theorem kk_mirror {i j : Nat} (hj : j ≤ p.size) (k : Nat) : kk K (kas_rev p i j) k = if i ≤ k ∧ k < j then kk K p (i + j - 1 - k) else kk K p k := by
  have e := getElem?_mirror_all (i := i) hj k
  by_cases h1 : i ≤ k ∧ k < j
  · rw [if_pos h1] at e ⊢; exact kk_congr e
  · rw [if_neg h1] at e ⊢; exact kk_congr e
theorem kk_same {i j : Nat} (hj : j ≤ p.size) (heq : ∀ k, i ≤ k → k < j → kk K p k = kk K p (j - 1)) (k : Nat) : kk K (kas_rev p i j) k = kk K p k := by
  rw [kk_mirror hj]
  split
  · rw [heq _ (by lia) (by lia), heq k (by lia) (by lia)]
  · rfl
theorem rev_perm (i j : Nat) : (kas_rev p i j).Perm p := mirror_perm _ _ _ _
theorem rev_size (i j : Nat) : (kas_rev p i j).size = p.size := mirror_size _ _ _ _

theorem asc_ok : ∀ (f n : Nat), 1 ≤ n → Up K p n → n ≤ kev (olt K) (kas_asc p f n) ∧ kev (olt K) (kas_asc p f n) ≤ n + f ∧ Up K p (kev (olt K) (kas_asc p f n)) ∧
    (kev (olt K) (kas_asc p f n) = n + f ∨ O.klt (kk K p (kev (olt K) (kas_asc p f n))) (kk K p (kev (olt K) (kas_asc p f n) - 1)))
  | 0, n, h1, hs => ⟨Nat.le_refl _, Nat.le_refl _, hs, .inl rfl⟩
  | f + 1, n, h1, hs => by
    show n ≤ kev (olt K) (if olt K (p.getD n 0) (p.getD (n - 1) 0) = true then KasT.ret n else kas_asc p f (n + 1)) ∧ kev (olt K) (if olt K (p.getD n 0) (p.getD (n - 1) 0) = true then KasT.ret n else kas_asc p f (n + 1)) ≤ _ ∧
      Up K p (kev (olt K) (if olt K (p.getD n 0) (p.getD (n - 1) 0) = true then KasT.ret n else kas_asc p f (n + 1))) ∧
      (kev (olt K) (if olt K (p.getD n 0) (p.getD (n - 1) 0) = true then KasT.ret n else kas_asc p f (n + 1)) = _ ∨ O.klt (kk K p (kev (olt K) (if olt K (p.getD n 0) (p.getD (n - 1) 0) = true then KasT.ret n else kas_asc p f (n + 1)))) (kk K p (kev (olt K) (if olt K (p.getD n 0) (p.getD (n - 1) 0) = true then KasT.ret n else kas_asc p f (n + 1)) - 1)))
    cases hl : olt K (p.getD n 0) (p.getD (n - 1) 0) with
    | true =>
      rw [if_pos rfl]
      exact ⟨Nat.le_refl _, Nat.le_add_right _ _, hs, .inr hl⟩
    | false =>
      rw [if_neg (by decide)]
      have hs' : Up K p (n + 1) := fun i j hij hj => by
        by_cases hjx : j < n
        · exact hs i j hij hjx
        · have hj' : j = n := by lia
          subst hj'
          by_cases hi' : i = j
          · subst hi'; exact KeyOrd.kle_refl _
          · exact KeyOrd.kle_trans (hs i (j - 1) (by lia) (by lia)) hl
      obtain ⟨a1, a2, a3, a4⟩ := asc_ok f (n + 1) (by lia) hs'
      exact ⟨by lia, by lia, a3, a4.imp (fun h => by lia) id⟩

structure Down (K : Nat → O.α) (p₀ p : Array Nat) (n q : Nat) : Prop where
  perm : p.Perm p₀
  dn : Dn K p n
  q1 : q + 1 ≤ n
  eq : ∀ i, n - (q + 1) ≤ i → i < n → kk K p i = kk K p (n - 1)
theorem desc_ok {p₀ : Array Nat} : ∀ (f : Nat) (p : Array Nat) (n q : Nat), Down K p₀ p n q → n + f ≤ p₀.size →
    Down K p₀ (kev (olt K) (kas_desc f p n q)).1 (kev (olt K) (kas_desc f p n q)).2.1 (kev (olt K) (kas_desc f p n q)).2.2 ∧ n ≤ (kev (olt K) (kas_desc f p n q)).2.1 ∧ (kev (olt K) (kas_desc f p n q)).2.1 ≤ n + f
  | 0, p, n, q, h, hz => ⟨h, Nat.le_refl _, Nat.le_refl _⟩
  | f + 1, p, n, q, h, hz => by
    have hsz : p.size = p₀.size := h.perm.size_eq
    have e : kev (olt K) (kas_desc (f + 1) p n q) = kev (olt K) (if olt K (p.getD n 0) (p.getD (n - 1) 0) = true then (if q > 0 then kas_desc f (kas_rev p (n - (q + 1)) n) (n + 1) 0 else kas_desc f p (n + 1) 0)
      else .ask (p.getD (n - 1) 0) (p.getD n 0) fun d => if d = true then .ret (p, n, q) else kas_desc f p (n + 1) (q + 1)) := rfl
    rw [e]
    have next : ∀ (p' : Array Nat) (q' : Nat), Down K p₀ p' (n + 1) q' →
        Down K p₀ (kev (olt K) (kas_desc f p' (n + 1) q')).1 (kev (olt K) (kas_desc f p' (n + 1) q')).2.1 (kev (olt K) (kas_desc f p' (n + 1) q')).2.2 ∧ n ≤ (kev (olt K) (kas_desc f p' (n + 1) q')).2.1 ∧ (kev (olt K) (kas_desc f p' (n + 1) q')).2.1 ≤ n + (f + 1) := fun p' q' h' => by
      obtain ⟨a1, a2, a3⟩ := desc_ok f p' (n + 1) q' h' (by lia)
      exact ⟨a1, by lia, by lia⟩
    cases hl : olt K (p.getD n 0) (p.getD (n - 1) 0) with
    | true =>
      rw [if_pos rfl]
      have step1 : ∀ xs : Array Nat, (∀ k, kk K xs k = kk K p k) → Dn K xs (n + 1) := by
        intro xs hk i j hij hj
        rw [hk, hk]
        by_cases hjx : j < n
        · exact h.dn i j hij hjx
        · have hj' : j = n := by lia
          subst hj'
          by_cases hi' : i = j
          · subst hi'; exact KeyOrd.kle_refl _
          · exact KeyOrd.kle_trans (KeyOrd.kle_of_klt hl) (h.dn i (j - 1) (by lia) (by have := h.q1; lia))
      by_cases hq : q > 0
      · rw [if_pos hq]
        exact next _ 0 ⟨(rev_perm _ _).trans h.perm, step1 _ (kk_same (by lia) h.eq), by lia, fun i h1 h2 => by congr 1; lia⟩
      · rw [if_neg hq]
        exact next _ 0 ⟨h.perm, step1 _ (fun _ => rfl), by lia, fun i h1 h2 => by congr 1; lia⟩
    | false =>
      rw [if_neg (by decide)]
      have e2 : kev (olt K) (.ask (p.getD (n - 1) 0) (p.getD n 0) fun d => if d = true then KasT.ret (p, n, q) else kas_desc f p (n + 1) (q + 1)) = kev (olt K) (if olt K (p.getD (n - 1) 0) (p.getD n 0) = true then KasT.ret (p, n, q) else kas_desc f p (n + 1) (q + 1)) := rfl
      rw [e2]
      cases hg : olt K (p.getD (n - 1) 0) (p.getD n 0) with
      | true =>
        rw [if_pos rfl]
        exact ⟨h, Nat.le_refl _, Nat.le_add_right _ _⟩
      | false =>
        rw [if_neg (by decide)]
        have heqx : kk K p n = kk K p (n - 1) := KeyOrd.kle_antisymm hg hl
        have hq1 := h.q1
        refine next _ _ ⟨h.perm, fun i j hij hj => ?_, by lia, fun i h1 h2 => ?_⟩
        · by_cases hjx : j < n
          · exact h.dn i j hij hjx
          · have hj' : j = n := by lia
            subst hj'
            by_cases hi' : i = j
            · subst hi'; exact KeyOrd.kle_refl _
            · rw [heqx]; exact h.dn i (j - 1) (by lia) (by lia)
        · rw [show n + 1 - 1 = n by lia]
          by_cases hix : i = n
          · subst hix; rfl
          · rw [heqx]; exact h.eq i (by lia) (by lia)

noncomputable def Run (K : Nat → O.α) (p₀ : Array Nat) (nrem : Nat) (r : Nat × Array Nat) : Prop := r.2.Perm p₀ ∧ 1 ≤ r.1 ∧ r.1 ≤ nrem ∧ Up K r.2 r.1
theorem tail3_ok {p₀ : Array Nat} {n nrem : Nat} (hp : p.Perm p₀) (h1 : 1 ≤ n) (hn : n ≤ nrem) (hz : nrem ≤ p₀.size) (hd : Dn K p n) : Run K p₀ nrem (kev (olt K) (kas_tail3 n nrem p)) := by
  unfold kas_tail3
  rw [kev_bind]
  have hsz : p.size = p₀.size := hp.size_eq
  have hs : Up K (kas_rev p 0 n) n := fun i j hij hj => by
    rw [kk_mirror (by lia), kk_mirror (by lia), if_pos (by lia), if_pos (by lia)]
    exact hd _ _ (by lia) (by lia)
  obtain ⟨a1, a2, a3, _⟩ := asc_ok (K := K) (p := kas_rev p 0 n) (nrem - n) n h1 hs
  exact ⟨(rev_perm _ _).trans hp, by show 1 ≤ kev _ _; lia, by show kev _ _ ≤ nrem; lia, a3⟩
theorem descPart_ok {p₀ : Array Nat} {n nrem : Nat} (hp : p.Perm p₀) (hn : n + 1 ≤ nrem) (hz : nrem ≤ p₀.size) (hd : Dn K p (n + 1)) : Run K p₀ nrem (kev (olt K) (kas_descPart n nrem p)) := by
  unfold kas_descPart
  rw [kev_bind]
  refine nng fun nG => ?_
  obtain ⟨D, b1, b2⟩ := desc_ok (K := K) (p₀ := p₀) (nrem - (n + 1)) p (n + 1) 0 ⟨hp, hd, by lia, fun i h1 h2 => by congr 1; lia⟩ (by lia)
  refine nG ?_
  clear nG
  generalize kev (olt K) (kas_desc (nrem - (n + 1)) p (n + 1) 0) = r at D b1 b2 ⊢
  have hsz : r.1.size = p₀.size := D.perm.size_eq
  by_cases hq : r.2.2 > 0
  · rw [if_pos hq]
    refine tail3_ok ((rev_perm _ _).trans D.perm) (by lia) (by lia) hz fun i j hij hj => ?_
    rw [kk_same (by lia) D.eq, kk_same (by lia) D.eq]
    exact D.dn i j hij hj
  · rw [if_neg hq]
    exact tail3_ok D.perm (by lia) (by lia) hz D.dn
theorem count_ok2 {nrem : Nat} (h1 : 1 ≤ nrem) (hz : nrem ≤ p.size) : Run K p nrem (kev (olt K) (kas_count nrem p)) := by
  unfold kas_count
  rw [kev_bind]
  refine nng fun nG => ?_
  obtain ⟨a1, a2, a3, a4⟩ := asc_ok (K := K) (p := p) (nrem - 1) 1 (Nat.le_refl 1) (fun i j hij hj => by have : i = j := (by lia); subst this; exact KeyOrd.kle_refl _)
  refine nG ?_
  clear nG
  generalize kev (olt K) (kas_asc p (nrem - 1) 1) = n at a1 a2 a3 a4 ⊢
  by_cases hn : (n == nrem) = true
  · rw [if_pos hn]
    exact ⟨.refl _, a1, by show n ≤ nrem; lia, a3⟩
  · rw [if_neg hn]
    have hne : n ≠ nrem := fun h => hn (by rw [h]; exact beq_self_eq_true _)
    have hlt : O.klt (kk K p n) (kk K p (n - 1)) := a4.resolve_left (by lia)
    by_cases hgt : n > 1
    · rw [if_pos hgt]
      have e2 : kev (olt K) (.ask (p.getD 0 0) (p.getD (n - 1) 0) fun c => if c = true then KasT.ret (n, p) else kas_descPart n nrem (kas_rev p 0 n)) = kev (olt K) (if olt K (p.getD 0 0) (p.getD (n - 1) 0) = true then KasT.ret (n, p) else kas_descPart n nrem (kas_rev p 0 n)) := rfl
      rw [e2]
      cases hr : olt K (p.getD 0 0) (p.getD (n - 1) 0) with
      | true => rw [if_pos rfl]; exact ⟨.refl _, a1, by show n ≤ nrem; lia, a3⟩
      | false =>
        rw [if_neg (by decide)]
        have hall : ∀ k, 0 ≤ k → k < n → kk K p k = kk K p (n - 1) := by
          intro k _ hk
          have b1 := a3 0 k (by lia) hk
          have b2 := a3 k (n - 1) (by lia) (by lia)
          exact KeyOrd.kle_antisymm b2 (KeyOrd.kle_trans hr b1)
        refine descPart_ok (rev_perm _ _) (by lia) hz fun i j hij hj => ?_
        rw [kk_same (by lia) hall, kk_same (by lia) hall]
        by_cases hjn : j < n
        · rw [hall i (by lia) (by lia), hall j (by lia) hjn]; exact KeyOrd.kle_refl _
        · have hj' : j = n := by lia
          subst hj'
          by_cases hi' : i = j
          · subst hi'; exact KeyOrd.kle_refl _
          · rw [hall i (by lia) (by lia)]; exact KeyOrd.kle_of_klt hlt
    · rw [if_neg hgt]
      have hn1' : n = 1 := by lia
      subst hn1'
      refine descPart_ok (.refl _) (by lia) hz fun i j hij hj => ?_
      by_cases hi' : i = j
      · subst hi'; exact KeyOrd.kle_refl _
      · have hi0 : i = 0 := by lia
        have hj1 : j = 1 := by lia
        subst hi0; subst hj1
        exact KeyOrd.kle_of_klt hlt

theorem place_ok {k : Nat} (hs : Up K p k) : ∀ (f l r : Nat), l ≤ r → r ≤ k → r - l ≤ f → (∀ i, i < l → O.kle (kk K p i) (kk K p k)) → (∀ i, r ≤ i → i < k → O.klt (kk K p k) (kk K p i)) →
    kev (olt K) (kas_place p k f l r) ≤ k ∧ (∀ i, i < kev (olt K) (kas_place p k f l r) → O.kle (kk K p i) (kk K p k)) ∧ (∀ i, kev (olt K) (kas_place p k f l r) ≤ i → i < k → O.klt (kk K p k) (kk K p i))
  | 0, l, r, hlr, hrk, hm, hlo, hhi => by
    have : l = r := by lia
    subst this
    exact ⟨hrk, hlo, hhi⟩
  | f + 1, l, r, hlr, hrk, hm, hlo, hhi => by
    unfold kas_place
    by_cases hge : l ≥ r
    · rw [if_pos hge]
      have : l = r := by lia
      subst this
      exact ⟨hrk, hlo, hhi⟩
    · rw [if_neg hge]
      have e2 : kev (olt K) (.ask (p.getD k 0) (p.getD ((l + r) / 2) 0) fun c => if c = true then kas_place p k f l ((l + r) / 2) else kas_place p k f ((l + r) / 2 + 1) r) = kev (olt K) (if olt K (p.getD k 0) (p.getD ((l + r) / 2) 0) = true then kas_place p k f l ((l + r) / 2) else kas_place p k f ((l + r) / 2 + 1) r) := rfl
      rw [e2]
      cases hl : olt K (p.getD k 0) (p.getD ((l + r) / 2) 0) with
      | true =>
        rw [if_pos rfl]
        exact place_ok hs f l ((l + r) / 2) (by lia) (by lia) (by lia) hlo fun i h1 h2 => KeyOrd.klt_of_klt_of_kle hl (hs _ _ h1 h2)
      | false =>
        rw [if_neg (by decide)]
        exact place_ok hs f ((l + r) / 2 + 1) r (by lia) hrk (by lia) (fun i h1 => KeyOrd.kle_trans (hs i ((l + r) / 2) (by lia) (by lia)) (show O.kle _ _ from hl)) hhi
theorem bin_ok2 {p₀ : Array Nat} : ∀ (f : Nat) (p : Array Nat) (k : Nat), p.Perm p₀ → Up K p k → k + f ≤ p₀.size → (kev (olt K) (kas_bin f p k)).Perm p₀ ∧ Up K (kev (olt K) (kas_bin f p k)) (k + f)
  | 0, p, k, hp, hs, hz => ⟨hp, hs⟩
  | f + 1, p, k, hp, hs, hz => by
    have e : kev (olt K) (kas_bin (f + 1) p k) = kev (olt K) (kas_bin f (bubble p k (k - kev (olt K) (kas_place p k k 0 k))) (k + 1)) := kev_bind _ _ _
    rw [e]
    have hsz : p.size = p₀.size := hp.size_eq
    obtain ⟨c1, c2, c3⟩ := place_ok (K := K) hs k 0 k (by lia) (Nat.le_refl _) (by lia) (fun i hi => by lia) fun i h1 h2 => by lia
    generalize kev (olt K) (kas_place p k k 0 k) = l at c1 c2 c3 ⊢
    have hs' : Up K (bubble p k (k - l)) (k + 1) := by
      intro i j hij hj
      rw [kk_bubble (by lia) (by lia), kk_bubble (by lia) (by lia), show k - (k - l) = l by lia]
      repeat' split
      all_goals first
        | (exfalso; lia)
        | exact KeyOrd.kle_refl _
        | exact c2 _ (by lia)
        | exact KeyOrd.kle_of_klt (c3 _ (by lia) (by lia))
        | exact hs _ _ (by lia) (by lia)
    obtain ⟨d1, d2⟩ := bin_ok2 (p₀ := p₀) f _ (k + 1) ((bubble_perm _ _ _).trans hp) hs' (by lia)
    exact ⟨d1, by rw [show k + (f + 1) = k + 1 + f by lia]; exact d2⟩
theorem sort_tree {n : Nat} (h : 1 ≤ n) : (kev (olt K) (kas_sort n)).Perm (List.toArray (List.range n)) ∧ Up K (kev (olt K) (kas_sort n)) n := by
  unfold kas_sort
  rw [kev_bind]
  have hz : (List.toArray (List.range n)).size = n := by simp
  refine nng fun nG => ?_
  obtain ⟨a1, a2, a3, a4⟩ := count_ok2 (K := K) (p := List.toArray (List.range n)) (nrem := n) h (by lia)
  refine nG ?_
  clear nG
  generalize kev (olt K) (kas_count n (List.toArray (List.range n))) = r at a1 a2 a3 a4 ⊢
  by_cases hlt : r.1 < n
  · rw [if_pos hlt]
    have hm : max r.1 1 = r.1 := by lia
    rw [hm]
    obtain ⟨b1, b2⟩ := bin_ok2 (K := K) (p₀ := List.toArray (List.range n)) (n - r.1) r.2 r.1 a1 a4 (by lia)
    exact ⟨b1, by rw [show r.1 + (n - r.1) = n by lia] at b2; exact b2⟩
  · rw [if_neg hlt]
    have : r.1 = n := by lia
    rw [this] at a4
    exact ⟨a1, a4⟩
end
end Mine.Internal
end
section
open PySem PySem.W PySem.Calls PyProof.Rows PySem.SeqAt
open AutoSeq1 (wpAny_loadPart')
open MeetsSeq MeetsSeq2 MeetsSeq3 SeqRoads2
set_option Elab.async false
set_option linter.unusedVariables false
set_option maxRecDepth 100000
namespace Mine.Internal
noncomputable def LtAt (A : Around) (s : Shared) (y x : Value) (b : Bool) : Prop :=
  ∀ (prog : Program) (w : World) (E : Value → Shared → Prop) (Q : Value → Shared → Prop), Q (.bool b) s → wpAny (model prog w) A (richCompare .Lt y x) Q E s
noncomputable def lexAt (e lt : Nat → Bool) (fin : Bool) : Nat → Nat → Bool
  | 0, _ => fin
  | k + 1, i => match e i with | true => lexAt e lt fin k (i + 1) | false => lt i

theorem tuple_ltAt (l b : Addr) (items items2 : Array Value) (n n2 : Nat) (dd dd2 : Option Addr) (sl sl2 : Array (Option Value)) (e lt : Nat → Bool) :
    Meets (Builtin.«tuple.__lt__» ⟨[.ref l, .ref b], []⟩)
      (fun A R s => s.heap.get? l = some { cls := .type "tuple", dict := dd, data := .seq items n, slots := sl } ∧ s.heap.get? b = some { cls := .type "tuple", dict := dd2, data := .seq items2 n2, slots := sl2 } ∧
        (∀ j (h1 : j < items.size) (h2 : j < items2.size), EqAt A.in1 s items[j] items2[j] (e j)) ∧
        (∀ j (h1 : j < items.size) (h2 : j < items2.size), LtAt A.in1 s items[j] items2[j] (lt j)) ∧
        R (.ok (.ret (.bool (lexAt e lt (decide (items.size < items2.size)) (min items.size items2.size) 0)))) s) :=
  .of_wp fun prog w A R s h => by
    obtain ⟨hp, g, d, tk, os⟩ := s; obtain ⟨hl, hb, he, hlt2, h⟩ := h
    have f2 := AutoSeq1.sub_tuple_tuple
    have hZ : (items.toList.zip items2.toList).length = min items.size items2.size := by simp
    wp_walk using wpAny_loadPart' hl, wpAny_loadPart' hb, wpAny_forIn_list _ (fun rest b s' => b.1 = none ∧ s' = ⟨hp, g, d, tk, os⟩ ∧ ∃ i k, i + k = min items.size items2.size ∧ rest = (items.toList.zip items2.toList).drop i ∧
      R (.ok (.ret (.bool (lexAt e lt (decide (items.size < items2.size)) k i)))) ⟨hp, g, d, tk, os⟩) _
    case turn =>
      rintro ⟨y, x⟩ rest b s' ⟨hb', rfl, i, k, hik, hz, hR⟩
      have hlt : i < (items.toList.zip items2.toList).length := by
        rcases Nat.lt_or_ge i (items.toList.zip items2.toList).length with h' | h'
        · exact h'
        · rw [List.drop_of_length_le h'] at hz; cases hz
      have hm : i < min items.size items2.size := hZ ▸ hlt
      have h1 : i < items.size := Nat.lt_of_lt_of_le hm (Nat.min_le_left _ _)
      have h2 : i < items2.size := Nat.lt_of_lt_of_le hm (Nat.min_le_right _ _)
      rw [List.drop_eq_getElem_cons hlt] at hz
      injection hz with hyx hrest
      have hy : y = items[i] := by have := congrArg Prod.fst hyx; simpa using this
      have hx : x = items2[i] := by have := congrArg Prod.snd hyx; simpa using this
      subst hy hx
      obtain ⟨k', rfl⟩ : ∃ k', k = k' + 1 := ⟨k - 1, by lia⟩
      unfold lexAt at hR
      refine wpAny_bind (he i h1 h2 prog w _ _ ?_)
      cases hy : e i with
      | true =>
        rw [hy] at hR
        wp_walk
        exact ⟨rfl, rfl, i + 1, k', by lia, hrest, hR⟩
      | false =>
        rw [hy] at hR
        show wpAny _ _ (do rule "tuple.compare.by-the-first-pair-that-differs"; let r ← richCompare .Lt items[i] items2[i]; let r ← ret r; pure (ForInStep.done (some r, ()))) _ _ _
        refine wpAny_bind (wpAny_rule (wpAny_bind (hlt2 i h1 h2 prog w _ _ ?_)))
        wp_walk
        exact ⟨_, rfl, hR⟩
    case fin =>
      rintro ⟨b1, b2⟩ s' ⟨hb', rfl, i, k, hik, hz, hR⟩
      simp only at hb'
      subst hb'
      have hge : min items.size items2.size ≤ i := by
        rcases Nat.lt_or_ge i (items.toList.zip items2.toList).length with h' | h'
        · rw [List.drop_eq_getElem_cons h'] at hz; cases hz
        · exact hZ ▸ h'
      obtain rfl : k = 0 := by lia
      wp_walk
      exact ⟨_, rfl, by simpa [Builtin.Tuple.tupleCompareSizes, lexAt] using hR⟩
    case h =>
      exact ⟨rfl, rfl, 0, _, Nat.zero_add _, rfl, h⟩

theorem lt_loopAt (l b : Addr) (items items2 : Array Value) (n n2 : Nat) (dd dd2 : Option Addr) (sl sl2 : Array (Option Value)) (e lt : Nat → Bool) (k : Nat) :
    ∀ i : Nat, i + k = min items.size items2.size → Meets (Builtin.«list.__eq__.loop» ⟨[.ref l, .ref b, rawInt i, rawInt 0], []⟩)
      (fun A R s => s.heap.get? l = some { cls := .type "list", dict := dd, data := .seq items n, slots := sl } ∧ s.heap.get? b = some { cls := .type "list", dict := dd2, data := .seq items2 n2, slots := sl2 } ∧
        (∀ j (h1 : j < items.size) (h2 : j < items2.size), EqAt A.in1 s items[j] items2[j] (e j)) ∧
        (∀ j (h1 : j < items.size) (h2 : j < items2.size), LtAt A.in1 s items[j] items2[j] (lt j)) ∧
        R (.ok (.ret (.bool (lexAt e lt (decide (items.size < items2.size)) k i)))) s) := by
  induction k with
  | zero =>
    intro i hk prog w A R s h
    obtain ⟨hp, g, d, tk, os⟩ := s; obtain ⟨hl, hb, he, hlt, h⟩ := h
    wp_walk using wpAny_loadPart' hl, wpAny_loadPart' hb
    have hd : R (.ok (.ret (.bool (decide (items.size < items2.size))))) ⟨hp, g, d, tk, os⟩ := h
    have hcase : items[((i : Nat) : Int).toNat]? = none ∨ items2[((i : Nat) : Int).toNat]? = none := by
      simp
      lia
    have fin : ∀ (x y : Option Value), (x = none ∨ y = none) → wpAny (model prog w) A.in1 (match (x, y) with
      | (some x, some y) => (do
        let c ← eqBool x y
        if c = true then again (Code.builtin "list.__eq__.loop" { pos := [Value.ref l, Value.ref b, rawInt ((i : Int) + 1), rawInt 0] })
          else do
            let xs ← Builtin.List.listItems (Value.ref l)
            let ys ← Builtin.List.listItems (Value.ref b)
            match xs[((i : Int)).toNat]?, ys[((i : Int)).toNat]?, CmpOp.Lt with
              | some val, some val_1, CmpOp.Eq => ret (Value.bool false)
              | some val, some val_1, CmpOp.NotEq => ret (Value.bool true)
              | some x, some y, x_1 => (do
                let c ← richCompare CmpOp.Lt x y
                ret c)
              | x, x_1, x_2 => (do
                rule "list.compare.shrunk"
                ret (.bool (decide (xs.size < ys.size)))))
      | _ => (do
        let xs ← Builtin.List.listItems (Value.ref l)
        let ys ← Builtin.List.listItems (Value.ref b)
        ret (.bool (decide (xs.size < ys.size)))))
      (fun fin s' => match fin with | Fin.done f => R (Except.ok f) s' | Fin.again c' => c'.quiet = true ∧ codeAny (model prog w) A c' R s') (fun e s' => R (Except.error e) s') ⟨hp, g, d, tk, os⟩ := by
      intro x y hxy
      have : ∀ m : Sem Fin, wpAny (model prog w) A.in1 (do
        let xs ← Builtin.List.listItems (Value.ref l)
        let ys ← Builtin.List.listItems (Value.ref b)
        ret (.bool (decide (xs.size < ys.size)))) (fun fin s' => match fin with | Fin.done f => R (Except.ok f) s' | Fin.again c' => c'.quiet = true ∧ codeAny (model prog w) A c' R s') (fun e s' => R (Except.error e) s') ⟨hp, g, d, tk, os⟩ := fun m => by
        wp_walk using wpAny_loadPart' hl, wpAny_loadPart' hb
        exact hd
      rcases hxy with rfl | rfl
      · cases y <;> exact this (pure (.done .next))
      · cases x <;> exact this (pure (.done .next))
    exact fin _ _ hcase
  | succ k ih =>
    intro i hk prog w A R s h
    obtain ⟨hp, g, d, tk, os⟩ := s; obtain ⟨hl, hb, he, hltt, h⟩ := h
    wp_walk using wpAny_loadPart' hl, wpAny_loadPart' hb
    have hlt : i < items.size := by lia
    have hlt2 : i < items2.size := by lia
    have hi1 : items[((i : Nat) : Int).toNat]? = some items[i] := by simp [hlt]
    have hi2 : items2[((i : Nat) : Int).toNat]? = some items2[i] := by simp [hlt2]
    have hc : ((i : Int) + 1) = ((i + 1 : Nat) : Int) := by push_cast; rfl
    unfold lexAt at h
    rw [hi1, hi2]
    refine wpAny_bind (he i hlt hlt2 prog w _ _ ?_)
    cases hb' : e i with
    | true =>
      rw [hb'] at h
      wp_walk
      rw [hc]
      exact ⟨plainId_quiet plain_eq_loop _, codeAny_builtin entry_eq_loop (by
        rw [Around.under_plainId plain_eq_loop _]
        exact ih (i + 1) (by lia) prog w A R _ ⟨hl, hb, he, hltt, h⟩)⟩
    | false =>
      rw [hb'] at h
      wp_walk using wpAny_loadPart' hl, wpAny_loadPart' hb
      rw [hi1, hi2]
      show wpAny _ _ (richCompare .Lt items[i] items2[i] >>= fun c => ret c) _ _ _
      refine wpAny_bind (hltt i hlt hlt2 prog w _ _ ?_)
      wp_walk
      exact h

theorem list_ltAt (l b : Addr) (items items2 : Array Value) (n n2 : Nat) (dd dd2 : Option Addr) (sl sl2 : Array (Option Value)) (e lt : Nat → Bool) :
    Meets (Builtin.«list.__lt__» ⟨[.ref l, .ref b], []⟩)
      (fun A R s => s.heap.get? l = some { cls := .type "list", dict := dd, data := .seq items n, slots := sl } ∧ s.heap.get? b = some { cls := .type "list", dict := dd2, data := .seq items2 n2, slots := sl2 } ∧
        (∀ j (h1 : j < items.size) (h2 : j < items2.size), EqAt A.in1 s items[j] items2[j] (e j)) ∧
        (∀ j (h1 : j < items.size) (h2 : j < items2.size), LtAt A.in1 s items[j] items2[j] (lt j)) ∧
        R (.ok (.ret (.bool (lexAt e lt (decide (items.size < items2.size)) (min items.size items2.size) 0)))) s) := by
  intro prog w A R s h
  obtain ⟨hp, g, d, tk, os⟩ := s; obtain ⟨hl, hb, he, hlt, h⟩ := h
  have f3 := AutoSeq1.sub_list_list
  wp_walk using wpAny_loadPart' hl, wpAny_loadPart' hb
  exact ⟨plainId_quiet plain_eq_loop _, codeAny_builtin entry_eq_loop (by
    rw [Around.under_plainId plain_eq_loop _]
    exact lt_loopAt l b items items2 n n2 dd dd2 sl sl2 e lt _ 0 (Nat.zero_add _) prog w A R _ ⟨hl, hb, he, hlt, h⟩)⟩
theorem LtAt.str (A : Around) (s : Shared) (a : Str) (t : Tok) (b : Str) (u : Tok) : LtAt A s (.str a t) (.str b u) (decide (a.cps.toList < b.cps.toList)) := fun prog w E Q h => P.lt_str h
theorem LtAt.tups {A : Around} {s : Shared} {l b : Addr} {items items2 : Array Value} {n n2 : Nat} {e lt : Nat → Bool} (hl : s.heap.get? l = some { cls := .type "tuple", data := .seq items n }) (hb : s.heap.get? b = some { cls := .type "tuple", data := .seq items2 n2 }) (hu : A.units < cLine)
    (he : ∀ j (h1 : j < items.size) (h2 : j < items2.size), EqAt A.in1 s items[j] items2[j] (e j)) (hlt : ∀ j (h1 : j < items.size) (h2 : j < items2.size), LtAt A.in1 s items[j] items2[j] (lt j)) :
    LtAt A s (.ref l) (.ref b) (lexAt e lt (decide (items.size < items2.size)) (min items.size items2.size) 0) := fun prog w E Q h =>
  richCompare_meets_room (op := .Lt) ⟨_, hl, rfl⟩ ⟨_, hb, rfl⟩ F.slot_tuple_lt F.entry_tuple_lt (F.args_tuple_lt_2 _ _) (tuple_ltAt l b items items2 n n2 none none #[] #[] e lt)
    ⟨hl, hb, he, hlt, show Value.bool _ ≠ Value.notImplemented ∧ Q (.bool _) s from ⟨(fun x => nomatch x), h⟩⟩ hu
end Mine.Internal
end
section
open PySem PySem.W PySem.Calls PyProof.Rows PySem.SeqAt
set_option Elab.async false
set_option linter.unusedVariables false
set_option maxRecDepth 100000
namespace Mine.Internal
noncomputable def Ask {α : Type} (n : Nat) (post : α → Prop) : KasT α → Prop
  | .ret a => post a
  | .ask i j k => i < n ∧ j < n ∧ ∀ b, Ask n post (k b)
theorem ask_bind {α β : Type} {n : Nat} {p : α → Prop} {q : β → Prop} {f : α → KasT β} (hf : ∀ a, p a → Ask n q (f a)) : ∀ t : KasT α, Ask n p t → Ask n q (t.bind f)
  | .ret a, h => hf a h
  | .ask i j k, h => ⟨h.1, h.2.1, fun b => ask_bind hf (k b) (h.2.2 b)⟩
noncomputable def Bd (n : Nat) (p : Array Nat) : Prop := ∀ i, p.getD i 0 < n
theorem bd_of {n : Nat} {p : Array Nat} (h0 : 0 < n) (h : ∀ x ∈ p, x < n) : Bd n p := fun i => by
  by_cases hi : i < p.size
  · have : p.getD i 0 = p[i] := by simp [Array.getD, hi]
    rw [this]; exact h _ (by simp)
  · have : p.getD i 0 = 0 := by simp [Array.getD, hi]
    rw [this]; exact h0
theorem bd_mem {n : Nat} {p : Array Nat} (h : Bd n p) : ∀ x ∈ p, x < n := fun x hx => by
  obtain ⟨i, hi, rfl⟩ := Array.mem_iff_getElem.mp hx
  have := h i
  have e : p.getD i 0 = p[i] := by simp [Array.getD, hi]
  rwa [e] at this
theorem bd_perm {n : Nat} {p q : Array Nat} (h0 : 0 < n) (h : Bd n p) (hp : q.Perm p) : Bd n q := bd_of h0 fun x hx => bd_mem h x ((Array.perm_iff_toList_perm.mp hp).mem_iff.mp (by simpa using hx) |> (by simpa using ·))
section
variable {n : Nat} {p : Array Nat}
theorem ask_asc (hb : Bd n p) : ∀ (f m : Nat), Ask n (fun _ : Nat => True) (kas_asc p f m)
  | 0, m => trivial
  | f + 1, m => ⟨hb _, hb _, fun c => by
    dsimp only
    split
    · exact trivial
    · exact ask_asc hb f (m + 1)⟩
theorem ask_desc (h0 : 0 < n) : ∀ (f : Nat) (p : Array Nat) (m q : Nat), Bd n p → Ask n (fun r : Array Nat × Nat × Nat => Bd n r.1) (kas_desc f p m q)
  | 0, p, m, q, hb => hb
  | f + 1, p, m, q, hb => ⟨hb _, hb _, fun c => by
    dsimp only
    split
    · split
      · exact ask_desc h0 f _ _ _ (bd_perm h0 hb (rev_perm _ _))
      · exact ask_desc h0 f _ _ _ hb
    · exact ⟨hb _, hb _, fun d => by
        dsimp only
        split
        · exact hb
        · exact ask_desc h0 f _ _ _ hb⟩⟩
theorem ask_tail3 (h0 : 0 < n) (hb : Bd n p) (m k : Nat) : Ask n (fun r : Nat × Array Nat => Bd n r.2) (kas_tail3 m k p) := by
  unfold kas_tail3
  refine ask_bind (p := fun _ : Nat => True) (fun a _ => ?_) _ (ask_asc (bd_perm h0 hb (rev_perm _ _)) _ _)
  exact bd_perm h0 hb (rev_perm _ _)
theorem ask_descPart (h0 : 0 < n) (hb : Bd n p) (m k : Nat) : Ask n (fun r : Nat × Array Nat => Bd n r.2) (kas_descPart m k p) :=
  ask_bind (fun r hr => by
    split
    · exact ask_tail3 h0 (bd_perm h0 hr (rev_perm _ _)) _ _
    · exact ask_tail3 h0 hr _ _) _ (ask_desc h0 _ _ _ _ hb)
theorem ask_count (h0 : 0 < n) (hb : Bd n p) (k : Nat) : Ask n (fun r : Nat × Array Nat => Bd n r.2) (kas_count k p) :=
  ask_bind (fun m _ => by
    split
    · exact hb
    · split
      · exact ⟨hb _, hb _, fun c => by
          dsimp only
          split
          · exact hb
          · exact ask_descPart h0 (bd_perm h0 hb (rev_perm _ _)) _ _⟩
      · exact ask_descPart h0 hb _ _) _ (ask_asc hb _ _)
theorem ask_place (hb : Bd n p) (k : Nat) : ∀ (f l r : Nat), Ask n (fun _ : Nat => True) (kas_place p k f l r)
  | 0, l, r => trivial
  | f + 1, l, r => by
    unfold kas_place
    split
    · exact trivial
    · exact ⟨hb _, hb _, fun c => by
        dsimp only
        split
        · exact ask_place hb k f _ _
        · exact ask_place hb k f _ _⟩
theorem ask_bin (h0 : 0 < n) : ∀ (f : Nat) (p : Array Nat) (k : Nat), Bd n p → Ask n (fun r : Array Nat => Bd n r) (kas_bin f p k)
  | 0, p, k, hb => hb
  | f + 1, p, k, hb => ask_bind (fun l _ => ask_bin h0 f _ _ (bd_perm h0 hb (bubble_perm _ _ _))) _ (ask_place hb k _ _ _)
theorem ask_sort (h0 : 0 < n) : Ask n (fun r : Array Nat => Bd n r) (kas_sort n) := by
  refine ask_bind (fun r hr => ?_) _ (ask_count h0 (bd_of h0 fun x hx => by simpa using hx) _)
  split
  · exact ask_bin h0 _ _ _ hr
  · exact hr
end

section
variable {prog : Program} {w : World} {A : Around} {E : Value → Shared → Prop} {s : Shared}
theorem kas_plain {α : Type} {κ : SortKind} {vs : List Value} {lt : Nat → Nat → Bool} {n : Nat} {G : α → Shared → Prop} {post : α → Prop} (hc : ∀ i j, i < n → j < n → ∀ C : Bool → Shared → Prop, C (lt i j) s → kas_ask prog w A κ vs i j C s) :
    ∀ t : KasT α, Ask n post t → G (kev lt t) s → t.kasWp (kas_ask prog w A κ vs) G s
  | .ret a, _, h => h
  | .ask i j k, ha, h => hc i j ha.1 ha.2.1 _ (kas_plain hc (k (lt i j)) (ha.2.2 _) h)

noncomputable def outOf (lt : Nat → Nat → Bool) (vs : List Value) : List Value := if vs.length < 2 then vs else (kev lt (kas_sort vs.length)).toList.map fun i => vs.getD i Value.none

theorem list_sort_by {a : Addr} {vs : List Value} {n : Nat} {κ : SortKind} {lt : Nat → Nat → Bool} {P : PySem.Fin → Shared → Prop} (ho : s.heap.get? a = some (seqObj "list" vs.toArray n)) (h64 : vs.length < 64)
    (hk : ∀ s', (∀ b o, b ≠ a → s.heap.get? b = some o → s'.heap.get? b = some o) → 2 ≤ vs.length → ∀ Q : SortKind → Shared → Prop, Q κ s' → wpAny (model prog w) A (keyKind' vs.toArray) Q E s')
    (hc : ∀ s', (∀ b o, b ≠ a → s.heap.get? b = some o → s'.heap.get? b = some o) → ∀ i j, i < vs.length → j < vs.length → ∀ C : Bool → Shared → Prop, C (lt i j) s' → kas_ask prog w A κ vs i j C s')
    (h : ∀ h' c, (∀ b o, b ≠ a → s.heap.get? b = some o → h'.get? b = some o) → h'.get? a = some (seqObj "list" (outOf lt vs).toArray c) → P (.done (.ret .none)) { s with heap := h' }) :
    wpAny (model prog w) A (Builtin.«list.sort» ⟨[.ref a], []⟩) P E s := by
  have ha : a < s.heap.objs.size := Heap.lt_size ho
  have s1 := Heap.SameBut.update s.heap a (Obj.mapSeq fun _ => (#[] : Array Value))
  obtain ⟨e1, ho1⟩ : ∃ e1, (s.heap.update a (Obj.mapSeq fun _ => (#[] : Array Value))).get? a = some (seqObj "list" #[] e1) := ⟨_, get?_update_seq ho fun _ => #[]⟩
  have ho6 : (((s.heap.update a (Obj.mapSeq fun _ => (#[] : Array Value))).push (seqObj "tuple" vs.toArray 0)).push (seqObj "list" #[] 0)).get? a = some (seqObj "list" #[] e1) := Heap.get?_push_of_some _ (Heap.get?_push_of_some _ ho1)
  have keep : ∀ b o, b ≠ a → s.heap.get? b = some o → (((s.heap.update a (Obj.mapSeq fun _ => (#[] : Array Value))).push (seqObj "tuple" vs.toArray 0)).push (seqObj "list" #[] 0)).get? b = some o := fun b o hb e => Heap.get?_push_of_some _ (Heap.get?_push_of_some _ (s1.extBut b o hb e))
  rw [list_sort_plain]
  refine wpAny_bind (listItems_at ho rfl ?_)
  refine wpAny_bind (listUpdate_at ho rfl ?_ (by rw [List.size_toArray, sizeLine_eq]; lia) (Nat.zero_le _))
  refine wpAny_bind (seqEpoch_at ho1 rfl ?_)
  refine wpAny_bind (wpAny_newTuple ?_ (by show vs.length ≤ _; rw [sizeLine_eq]; lia))
  refine wpAny_bind (wpAny_newList ?_ (Nat.zero_le _))
  refine wpAny_holding ?_
  show wpAny (model prog w) A _ P E { s with heap := ((s.heap.update a (Obj.mapSeq fun _ => (#[] : Array Value))).push (seqObj "tuple" vs.toArray 0)).push (seqObj "list" #[] 0) }
  dsimp only
  have hsz : vs.toArray.size = vs.length := by simp
  by_cases h2 : vs.toArray.size < 2
  · rw [if_pos h2, if_pos h2]
    refine wpAny_bind (wpAny_pure ?_)
    rw [StateT.run_pure]
    refine wpAny_bind (wpAny_pure ?_)
    dsimp only
    refine wpAny_bind (seqEpoch_at ho6 rfl ?_)
    have e2 : (arrOf (SortSt.mk' general' (vs.toArray.zip vs.toArray) #[] 7 none)).map (·.2) = vs.toArray := by
      show (vs.toArray.zip vs.toArray).map (·.2) = _
      apply Array.toList_inj.mp
      simp [List.map_snd_zip]
    refine wpAny_bind (listUpdate_at ho6 rfl ?_ (Nat.zero_le _) (by rw [e2, hsz, sizeLine_eq]; lia))
    simp only [bne_self_eq_false, Bool.false_eq_true, if_false]
    have s2 := Heap.SameBut.update (((s.heap.update a (Obj.mapSeq fun _ => (#[] : Array Value))).push (seqObj "tuple" vs.toArray 0)).push (seqObj "list" #[] 0)) a (Obj.mapSeq fun _ => (arrOf (SortSt.mk' general' (vs.toArray.zip vs.toArray) #[] 7 none)).map (·.2))
    obtain ⟨c2, hc2⟩ : ∃ c2, ((((s.heap.update a (Obj.mapSeq fun _ => (#[] : Array Value))).push (seqObj "tuple" vs.toArray 0)).push (seqObj "list" #[] 0)).update a (Obj.mapSeq fun _ => (arrOf (SortSt.mk' general' (vs.toArray.zip vs.toArray) #[] 7 none)).map (·.2))).get? a = some (seqObj "list" ((arrOf (SortSt.mk' general' (vs.toArray.zip vs.toArray) #[] 7 none)).map (·.2)) c2) := ⟨_, get?_update_seq ho6 fun _ => _⟩
    refine wpAny_pure (h _ c2 (fun b o hb e => s2.extBut b o hb (keep b o hb e)) ?_)
    rw [hc2, e2]
    unfold outOf
    rw [if_pos (by lia)]
  · rw [if_neg h2, if_neg h2]
    have hn2 : 2 ≤ vs.length := by lia
    refine wpAny_bind (hk _ keep hn2 _ ?_)
    refine wpAny_bind (wpAny_mono (kat_run (ks := vs) (vs := vs) (κ := κ) (G := fun p s' => p = kev lt (kas_sort vs.length) ∧ s' = { s with heap := ((s.heap.update a (Obj.mapSeq fun _ => (#[] : Array Value))).push (seqObj "tuple" vs.toArray 0)).push (seqObj "list" #[] 0) })
      (Q := fun st' s' => failedOf st' = none ∧ (arrOf st').map (·.2) = List.toArray ((kev lt (kas_sort vs.length)).toList.map fun i => vs.getD i Value.none) ∧ (kev lt (kas_sort vs.length)).size = vs.length ∧ s' = { s with heap := ((s.heap.update a (Obj.mapSeq fun _ => (#[] : Array Value))).push (seqObj "tuple" vs.toArray 0)).push (seqObj "list" #[] 0) })
      rfl hn2 h64 (fun p st' s' hp har hf hg => ⟨hf, by rw [← hg.1]; exact kat_snds rfl har, by rw [← hg.1]; exact hp, hg.2⟩) (kas_plain (lt := lt) (hc _ keep) _ (ask_sort (by lia)) ⟨rfl, rfl⟩)) ?_ fun _ _ e => e)
    rintro ⟨⟨⟩, st'⟩ s' ⟨hf, hout, hps, rfl⟩
    dsimp only at hf hout ⊢
    rw [hout]
    refine wpAny_bind (seqEpoch_at ho6 rfl ?_)
    refine wpAny_bind (listUpdate_at ho6 rfl ?_ (Nat.zero_le _) (by rw [List.size_toArray, List.length_map, Array.length_toList, hps, sizeLine_eq]; lia))
    rw [hf]
    simp only [bne_self_eq_false, Bool.false_eq_true, if_false]
    have s2 := Heap.SameBut.update (((s.heap.update a (Obj.mapSeq fun _ => (#[] : Array Value))).push (seqObj "tuple" vs.toArray 0)).push (seqObj "list" #[] 0)) a (Obj.mapSeq fun _ => List.toArray ((kev lt (kas_sort vs.length)).toList.map fun i => vs.getD i Value.none))
    obtain ⟨c2, hc2⟩ : ∃ c2, ((((s.heap.update a (Obj.mapSeq fun _ => (#[] : Array Value))).push (seqObj "tuple" vs.toArray 0)).push (seqObj "list" #[] 0)).update a (Obj.mapSeq fun _ => List.toArray ((kev lt (kas_sort vs.length)).toList.map fun i => vs.getD i Value.none))).get? a = some (seqObj "list" (List.toArray ((kev lt (kas_sort vs.length)).toList.map fun i => vs.getD i Value.none)) c2) := ⟨_, get?_update_seq ho6 fun _ => _⟩
    refine wpAny_pure (h _ c2 (fun b o hb e => s2.extBut b o hb (keep b o hb e)) ?_)
    rw [hc2]
    unfold outOf
    rw [if_neg (by lia)]
end
end Mine.Internal
end
section
open PySem PySem.W PySem.Calls PyProof.Rows PySem.SeqAt
set_option Elab.async false
set_option linter.unusedVariables false
set_option maxRecDepth 100000
namespace Mine.Internal
section
variable {O : KeyOrd}
theorem lexB_irr : ∀ a : List O.α, lexB O.blt a a = false
  | [] => rfl
  | a :: r => by simp [lexB, O.irrefl, lexB_irr r]
theorem lexB_tot : ∀ a b : List O.α, lexB O.blt a b = false → lexB O.blt b a = false → a = b
  | [], [], _, _ => rfl
  | [], b :: q, h, _ => by simp [lexB] at h
  | a :: r, [], _, h => by simp [lexB] at h
  | a :: r, b :: q, h1, h2 => by
    simp only [lexB, Bool.or_eq_false_iff, Bool.and_eq_false_imp, Bool.not_eq_true'] at h1 h2
    have e := O.total a b h1.1 h2.1
    subst e
    rw [lexB_tot r q (h1.2 h1.1) (h2.2 h1.1)]
theorem lexB_neg : ∀ a b c : List O.α, lexB O.blt a c = true → lexB O.blt a b = true ∨ lexB O.blt b c = true
  | _, _, [], h => by cases ‹List O.α› <;> simp [lexB] at h
  | [], [], c :: t, h => .inr rfl
  | [], b :: q, c :: t, h => .inl rfl
  | a :: r, [], c :: t, h => .inr rfl
  | a :: r, b :: q, c :: t, h => by
    simp only [lexB, Bool.or_eq_true, Bool.and_eq_true, Bool.not_eq_true'] at h ⊢
    cases h1 : O.blt a b with
    | true => exact .inl (.inl rfl)
    | false =>
      cases h2 : O.blt b c with
      | true => exact .inr (.inl rfl)
      | false =>
        rcases h with h | ⟨h3, h4⟩
        · rcases O.negTrans a b c h with q | q
          · rw [h1] at q; cases q
          · rw [h2] at q; cases q
        · have h5 : O.blt b a = false := by
            cases q : O.blt b a with
            | false => rfl
            | true =>
              rcases O.negTrans b c a q with z | z
              · rw [h2] at z; cases z
              · rw [h3] at z; cases z
          have h6 : O.blt c b = false := by
            cases q : O.blt c b with
            | false => rfl
            | true =>
              rcases O.negTrans c a b q with z | z
              · rw [h3] at z; cases z
              · rw [h1] at z; cases z
          rcases lexB_neg r q t h4 with z | z
          · exact .inl (.inr ⟨h5, z⟩)
          · exact .inr (.inr ⟨h6, z⟩)
theorem lexB_trans (a b c : List O.α) (h1 : lexB O.blt a b = true) (h2 : lexB O.blt b c = true) : lexB O.blt a c = true := by
  rcases lexB_neg a c b h1 with h | h
  · exact h
  · -- c < b and b < c
    have asym : ∀ x y : List O.α, lexB O.blt x y = true → lexB O.blt y x = true → False := by
      intro x
      induction x with
      | nil => intro y h k; cases y <;> simp [lexB] at k h
      | cons a r ih =>
        intro y h k
        cases y with
        | nil => simp [lexB] at h
        | cons b q =>
          simp only [lexB, Bool.or_eq_true, Bool.and_eq_true, Bool.not_eq_true'] at h k
          rcases h with h | ⟨h1, h2⟩
          · rcases k with k | ⟨k1, k2⟩
            · have := O.trans _ _ _ h k; rw [O.irrefl] at this; cases this
            · rw [h] at k1; cases k1
          · rcases k with k | ⟨k1, k2⟩
            · rw [k] at h1; cases h1
            · exact ih q h2 k2
    exact (asym _ _ h2 h).elim
noncomputable def lexOrd (O : KeyOrd) : KeyOrd := ⟨List O.α, lexB O.blt, lexB_irr, lexB_trans, lexB_neg, lexB_tot⟩
end
noncomputable def strOrd : KeyOrd := strKind.toKeyOrd
noncomputable def prOrd : KeyOrd := lexOrd strOrd
noncomputable def keyOrd : KeyOrd := lexOrd prOrd
theorem keyOrd_blt (a b : Key) : keyOrd.blt a b = keyLt a b := rfl
theorem prOrd_blt (a b : Pr) : prOrd.blt a b = prLt a b := rfl

theorem lexAt_lex {O : KeyOrd} : ∀ (X Y : List O.α) (e lt : Nat → Bool) (i : Nat), (∀ j (h1 : j < X.length) (h2 : j < Y.length), (e (i + j) = true ↔ X[j] = Y[j])) → (∀ j (h1 : j < X.length) (h2 : j < Y.length), lt (i + j) = O.blt X[j] Y[j]) →
    lexAt e lt (decide (X.length < Y.length)) (min X.length Y.length) i = lexB O.blt X Y
  | [], [], e, lt, i, _, _ => rfl
  | [], b :: q, e, lt, i, _, _ => by simp [lexAt, lexB]
  | a :: r, [], e, lt, i, _, _ => by simp [lexAt, lexB]
  | a :: r, b :: q, e, lt, i, he, hl => by
    have e0 := he 0 (by simp) (by simp)
    have l0 := hl 0 (by simp) (by simp)
    simp only [Nat.add_zero, List.getElem_cons_zero] at e0 l0
    have em : min (a :: r).length (b :: q).length = min r.length q.length + 1 := by simp only [List.length_cons]; lia
    have ed : decide ((a :: r).length < (b :: q).length) = decide (r.length < q.length) := by simp
    rw [em, ed]
    unfold lexAt lexB
    cases h : e i with
    | true =>
      have hab : a = b := e0.mp h
      subst hab
      rw [O.irrefl]
      show lexAt e lt _ _ (i + 1) = _
      simp only [Bool.not_false, Bool.true_and, Bool.false_or]
      refine lexAt_lex r q e lt (i + 1) (fun j h1 h2 => ?_) fun j h1 h2 => ?_
      · have := he (j + 1) (by simp; lia) (by simp; lia)
        rw [show i + 1 + j = i + (j + 1) by lia]; simpa using this
      · have := hl (j + 1) (by simp; lia) (by simp; lia)
        rw [show i + 1 + j = i + (j + 1) by lia]; simpa using this
    | false =>
      show lt i = _
      rw [l0]
      cases h1 : O.blt a b with
      | true => rfl
      | false =>
        cases h2 : O.blt b a with
        | true => rfl
        | false =>
          have := e0.mpr (O.total _ _ h1 h2)
          rw [h] at this; cases this

noncomputable abbrev keyLe (a b : Key) : Prop := keyLt b a = false
theorem insK_perm (k : Key) : ∀ l, (insK k l).Perm (k :: l)
  | [] => .refl _
  | j :: r => by
    unfold insK
    split
    · exact .refl _
    · exact (List.Perm.cons j (insK_perm k r)).trans (List.Perm.swap k j r)
theorem sortK_perm : ∀ l, (sortK l).Perm l
  | [] => .refl _
  | k :: r => (insK_perm k (sortK r)).trans (List.Perm.cons k (sortK_perm r))
theorem le_trans' {a b c : Key} (h1 : keyLe a b) (h2 : keyLe b c) : keyLe a c := KeyOrd.kle_trans (O := keyOrd) h1 h2
theorem insK_up (k : Key) : ∀ l, l.Pairwise keyLe → (insK k l).Pairwise keyLe
  | [], _ => by simp [insK]
  | j :: r, h => by
    obtain ⟨h1, h2⟩ := List.pairwise_cons.mp h
    unfold insK
    split
    · rename_i hk
      have hkj : keyLe k j := KeyOrd.klt_asymm (O := keyOrd) hk
      exact List.pairwise_cons.mpr ⟨fun x hx => by
        rcases List.mem_cons.mp hx with rfl | hx
        · exact hkj
        · exact le_trans' hkj (h1 x hx), h⟩
    · rename_i hk
      refine List.pairwise_cons.mpr ⟨fun x hx => ?_, insK_up k r h2⟩
      rcases List.mem_cons.mp ((insK_perm k r).mem_iff.mp hx) with rfl | hx
      · exact hk
      · exact h1 x hx
theorem sortK_up : ∀ l, (sortK l).Pairwise keyLe
  | [] => .nil
  | k :: r => insK_up k _ (sortK_up r)
theorem keys_same {l l' : List Key} (h : l.Perm l') (h1 : l.Pairwise keyLe) (h2 : l'.Pairwise keyLe) : l = l' :=
  List.Perm.eq_of_pairwise (fun a b _ _ q r => KeyOrd.kle_antisymm (O := keyOrd) q r) h1 h2 h
theorem sortK_congr {l l' : List Key} (h : l.Perm l') : sortK l = sortK l' :=
  keys_same ((sortK_perm l).trans (h.trans (sortK_perm l').symm)) (sortK_up l) (sortK_up l')

theorem tree_keys (ks : List Key) (h : 1 ≤ ks.length) : (kev (olt (O := keyOrd) fun i => ks.getD i []) (kas_sort ks.length)).toList.map (fun i => ks.getD i []) = sortK ks := by
  obtain ⟨hp, hu⟩ := sort_tree (O := keyOrd) (K := fun i => ks.getD i []) h
  generalize kev (olt (O := keyOrd) fun i => ks.getD i []) (kas_sort ks.length) = p at hp hu ⊢
  have hl : p.toList.Perm (List.range ks.length) := by simpa using Array.perm_iff_toList_perm.mp hp
  have hz : p.toList.length = ks.length := by rw [hl.length_eq, List.length_range]
  refine keys_same ?_ ?_ (sortK_up ks)
  · refine (hl.map _).trans ?_
    have e : (List.range ks.length).map (fun i => ks.getD i []) = ks := by
      apply List.ext_getElem
      · simp
      · intro i h1 h2
        simp [List.getD_eq_getElem?_getD, h2]
    rw [e]
    exact (sortK_perm ks).symm
  · rw [List.pairwise_map, List.pairwise_iff_getElem]
    intro i j h1 h2 hij
    have := hu i j (Nat.le_of_lt hij) (by lia)
    unfold kk at this
    have g1 : p.getD i 0 = p.toList[i] := by
      have : i < p.size := by simpa using h1
      simp [Array.getD, this]
    have g2 : p.getD j 0 = p.toList[j] := by
      have : j < p.size := by simpa using h2
      simp [Array.getD, this]
    rw [g1, g2] at this
    exact this
end Mine.Internal
end
section
open PySem PySem.W PySem.Calls PyProof.Rows PySem.SeqAt
set_option Elab.async false
set_option linter.unusedVariables false
set_option maxRecDepth 100000
namespace Mine.Internal
section
variable {c : Cx} {A : Around} {P : Addr → Obj → Prop} {fm ρ : List Addr} {st : Store} {s s' : Shared} {a b : Value} {x y d : D} {n : Nat}

theorem in1_units (A : Around) : A.in1.units ≤ A.units + 8 := by
  show A.units + _ ≤ _
  lia
noncomputable def PairIn (P : Addr → Obj → Prop) (v : Value) (x : Pr) : Prop := ∃ (a : Addr) (n : Nat) (u w : Str) (t t' : Tok), v = .ref a ∧ P a (tupObj [.str u t, .str w t'] n) ∧ x = [u.cps.toList, w.cps.toList]
theorem pr_at {v : Value} {d : D} {x : Pr} (l : Lay P ρ v d) (h : pairOf d = some x) : PairIn P v x ∧ d = decPair x := by
  obtain ⟨q, h1, h⟩ := bd_ok h
  obtain ⟨z, h2, h⟩ := bd_ok h
  obtain ⟨u, w, h3, h4, h⟩ := two_ok h
  obtain ⟨_, h⟩ := if_ok h
  cases h
  have e := un2_ok h2
  rw [dS_ok h3, dS_ok h4] at e
  rw [dT_ok h1, e] at l ⊢
  obtain ⟨a, vs, n, rfl, p, r⟩ := l.tupI
  obtain ⟨v1, us, rfl, a1, r⟩ := r.consI
  obtain ⟨v2, us, rfl, a2, r⟩ := r.consI
  cases r.nilI
  obtain ⟨t, rfl⟩ := a1.strI
  obtain ⟨t', rfl⟩ := a2.strI
  exact ⟨⟨a, n, u, w, t, t', rfl, p, rfl⟩, rfl⟩
theorem toList_inj {u w : Str} : (u == w) = true ↔ u.cps.toList = w.cps.toList := by
  rw [← str_beq]; exact beq_iff_eq
theorem pr_eq {a a' : Addr} {n n' : Nat} {u w u' w' : Str} {t1 t2 t3 t4 : Tok} (hu : A.units < cLine) (h1 : s.heap.get? a = some (tupObj [.str u t1, .str w t2] n)) (h2 : s.heap.get? a' = some (tupObj [.str u' t3, .str w' t4] n')) :
    EqAt A s (.ref a) (.ref a') (decide (([u.cps.toList, w.cps.toList] : Pr) = [u'.cps.toList, w'.cps.toList])) := by
  by_cases hne : a = a'
  · subst hne
    rw [h1] at h2; cases h2
    simp only [decide_true]
    exact EqAt.same _
  · have := RcAt.tuples (A := A) (s := s) (l := a) (b := a') (items := #[.str u t1, .str w t2]) (items2 := #[.str u' t3, .str w' t4]) (e := fun j => if j = 0 then u == u' else w == w') ⟨_, h1, rfl, _, rfl⟩ ⟨_, h2, rfl, _, rfl⟩ (by lia) (fun j q1 q2 => by
      match j, q1 with
      | 0, _ => exact EqAt.str_str _ _ _ _
      | 1, _ => exact EqAt.str_str _ _ _ _
      | j + 2, q => exact absurd (show j + 2 < 2 from q) (by lia))
    have e : ((List.range (min (#[Value.str u t1, .str w t2]).size (#[Value.str u' t3, .str w' t4]).size)).all (fun j => if j = 0 then u == u' else w == w') && (#[Value.str u t1, .str w t2]).size == (#[Value.str u' t3, .str w' t4]).size) =
        decide (([u.cps.toList, w.cps.toList] : Pr) = [u'.cps.toList, w'.cps.toList]) := by
      have e2 : (List.range 2).all (fun j => if j = 0 then u == u' else w == w') = ((u == u') && (w == w')) := by
        simp [List.range, List.range.loop]
      show ((List.range 2).all _ && true) = _
      rw [e2, Bool.and_true]
      have i1 := toList_inj (u := u) (w := u')
      have i2 := toList_inj (u := w) (w := w')
      cases q1 : (u == u') <;> cases q2 : (w == w') <;> simp [q1, q2] at i1 i2 ⊢ <;> simp [i1, i2]
    rw [e] at this
    exact EqAt.of_refs hne this
theorem pr_lt {a a' : Addr} {n n' : Nat} {u w u' w' : Str} {t1 t2 t3 t4 : Tok} (hu : A.units < cLine) (h1 : s.heap.get? a = some (tupObj [.str u t1, .str w t2] n)) (h2 : s.heap.get? a' = some (tupObj [.str u' t3, .str w' t4] n')) :
    LtAt A s (.ref a) (.ref a') (prLt [u.cps.toList, w.cps.toList] [u'.cps.toList, w'.cps.toList]) := by
  have := LtAt.tups (A := A) (s := s) (l := a) (b := a') (items := #[.str u t1, .str w t2]) (items2 := #[.str u' t3, .str w' t4]) (n := n) (n2 := n') (e := fun j => if j = 0 then u == u' else w == w') (lt := fun j => if j = 0 then sLt u.cps.toList u'.cps.toList else sLt w.cps.toList w'.cps.toList) h1 h2 (by lia) (fun j q1 q2 => by
      match j, q1 with
      | 0, _ => exact EqAt.str_str _ _ _ _
      | 1, _ => exact EqAt.str_str _ _ _ _
      | j + 2, q => exact absurd (show j + 2 < 2 from q) (by lia)) (fun j q1 q2 => by
      match j, q1 with
      | 0, _ => exact LtAt.str _ _ _ _ _ _
      | 1, _ => exact LtAt.str _ _ _ _ _ _
      | j + 2, q => exact absurd (show j + 2 < 2 from q) (by lia))
  have e := lexAt_lex (O := strOrd) [u.cps.toList, w.cps.toList] [u'.cps.toList, w'.cps.toList] (fun j => if j = 0 then u == u' else w == w') (fun j => if j = 0 then sLt u.cps.toList u'.cps.toList else sLt w.cps.toList w'.cps.toList) 0 (fun j q1 q2 => by
      match j, q1 with
      | 0, _ => exact toList_inj
      | 1, _ => exact toList_inj
      | j + 2, q => exact absurd (show j + 2 < 2 from q) (by lia)) (fun j q1 q2 => by
      match j, q1 with
      | 0, _ => rfl
      | 1, _ => rfl
      | j + 2, q => exact absurd (show j + 2 < 2 from q) (by lia))
  rw [show prLt [u.cps.toList, w.cps.toList] [u'.cps.toList, w'.cps.toList] = lexB strOrd.blt [u.cps.toList, w.cps.toList] [u'.cps.toList, w'.cps.toList] from rfl, ← e]
  exact this

theorem pairsOf_at {l : List D} {k : Key} {vs : List Value} (h : Lays P ρ vs l) (e : pairsOfD l = some k) : l = k.map decPair ∧ ∀ i (h : i < vs.length), PairIn P vs[i] (k.getD i []) := by
  induction l generalizing vs k with
  | nil => cases h.nilI; cases e; exact ⟨rfl, fun i h => absurd h (Nat.not_lt_zero _)⟩
  | cons d r ih =>
    obtain ⟨v, us, rfl, a, b⟩ := h.consI
    obtain ⟨x, e1, e⟩ := bd_ok e
    obtain ⟨q, e3, rfl⟩ := mp_ok e
    obtain ⟨p, rfl⟩ := pr_at a e1
    obtain ⟨b2, b3⟩ := ih b e3
    exact ⟨congrArg (decPair x :: ·) b2, fun i h => match i, h with | 0, _ => p | i + 1, h => b3 i (Nat.lt_of_succ_lt_succ h)⟩
noncomputable def KeyA (P : Addr → Obj → Prop) (v : Value) (k : Key) : Prop := ∃ x, PairIn P v x ∧ k = [x]
theorem keysA_at {l : List D} {ks : List Key} {vs : List Value} (h : Lays P ρ vs l) (e : keysA l = some ks) : l = ks.map decA ∧ ∀ i (h : i < vs.length), KeyA P vs[i] (ks.getD i []) := by
  obtain ⟨k, e', rfl⟩ := mp_ok e
  obtain ⟨b2, b3⟩ := pairsOf_at h e'
  refine ⟨b2.trans (List.map_map (f := fun x : Pr => [x]) (g := decA)).symm, fun i hi => ⟨_, b3 i hi, ?_⟩⟩
  have hl : i < k.length := by rw [h.length, b2, List.length_map] at hi; exact hi
  rw [List.getD_eq_getElem?_getD, List.getElem?_map, List.getD_eq_getElem?_getD, List.getElem?_eq_getElem hl]; rfl
noncomputable def KeyB (P : Addr → Obj → Prop) (ρ : List Addr) (v : Value) (k : Key) : Prop := ∃ (a : Addr) (n : Nat) (us : List Value) (ds : List D), v = .ref a ∧ P a (lstObj us n) ∧ Lays P ρ us ds ∧ ds.length ≤ lid ∧ pairsOfD ds = some k
theorem keysB_at {l : List D} {ks : List Key} {vs : List Value} (h : Lays P ρ vs l) (e : keysB l = some ks) : l = ks.map decB ∧ ∀ i (h : i < vs.length), KeyB P ρ vs[i] (ks.getD i []) := by
  induction l generalizing vs ks with
  | nil => cases h.nilI; cases e; exact ⟨rfl, fun i h => absurd h (Nat.not_lt_zero _)⟩
  | cons d r ih =>
    obtain ⟨v, us, rfl, a, b⟩ := h.consI
    obtain ⟨x, e1, e⟩ := bd_ok e
    obtain ⟨q, e3, rfl⟩ := mp_ok e
    obtain ⟨ds, h1, e1⟩ := bd_ok e1
    obtain ⟨hl, e1⟩ := if_ok e1
    rw [dL_ok h1] at a ⊢
    obtain ⟨a', vs', n, rfl, p, rr⟩ := a.lstI
    obtain ⟨b2, b3⟩ := ih b e3
    refine ⟨?_, fun i h => match i, h with | 0, _ => ⟨a', n, vs', ds, rfl, p, rr, hl, e1⟩ | i + 1, h => b3 i (Nat.lt_of_succ_lt_succ h)⟩
    rw [(pairsOf_at rr e1).1, List.map_cons, ← b2]; rfl
theorem in2_units (A : Around) : A.in1.in1.units ≤ A.units + 16 := by
  have h1 := in1_units A
  have h2 := in1_units A.in1
  lia
theorem keyLtA (u w u' w' : Str) (r : Pr) : keyLt [[u.cps.toList, w.cps.toList]] [[u'.cps.toList, w'.cps.toList]] = prLt [u.cps.toList, w.cps.toList] [u'.cps.toList, w'.cps.toList] := by
  show (prLt _ _ || (!prLt _ _ && false)) = _
  simp
theorem askA {vs : List Value} {ks : List Key} (hu : A.units + 16 < cLine) (hk : ∀ i (h : i < vs.length), KeyA (fun a o => s.heap.get? a = some o) vs[i] (ks.getD i []))
    (i j : Nat) (hi : i < vs.length) (hj : j < vs.length) (C : Bool → Shared → Prop) (h : C (olt (O := keyOrd) (fun i => ks.getD i []) i j) s) : kas_ask c.prog c.w A (tuples' true) vs i j C s := by
  refine nng fun nG => ?_
  obtain ⟨x1, ⟨a, n, u, w, t, t', e1, o1, rfl⟩, k1⟩ := hk i hi
  obtain ⟨x2, ⟨a', n', u', w', t2, t2', e2, o2, rfl⟩, k2⟩ := hk j hj
  refine nG ?_
  clear nG
  unfold kas_ask
  have g1 : vs.getD i Value.none = .ref a := by simp [List.getD_eq_getElem?_getD, hi, e1]
  have g2 : vs.getD j Value.none = .ref a' := by simp [List.getD_eq_getElem?_getD, hj, e2]
  rw [g1, g2]
  have hC : C (prLt [u.cps.toList, w.cps.toList] [u'.cps.toList, w'.cps.toList]) s := by
    have e : olt (O := keyOrd) (fun i => ks.getD i []) i j = prLt [u.cps.toList, w.cps.toList] [u'.cps.toList, w'.cps.toList] := by
      show keyLt (ks.getD i []) (ks.getD j []) = _
      rw [k1, k2, keyLtA u w u' w' []]
    rw [e] at h; exact h
  have e0 : prLt [u.cps.toList, w.cps.toList] [u'.cps.toList, w'.cps.toList] = if (u == u') = true then (if (w == w') = true then false else sLt w.cps.toList w'.cps.toList) else sLt u.cps.toList u'.cps.toList := by
    have irr : ∀ z, sLt z z = false := strOrd.irrefl
    show (sLt _ _ || (!sLt _ _ && (sLt _ _ || (!sLt _ _ && false)))) = _
    by_cases q1 : (u == u') = true
    · have := toList_inj.mp q1
      rw [if_pos q1, this, irr]
      by_cases q2 : (w == w') = true
      · have := toList_inj.mp q2
        rw [if_pos q2, this, irr]; rfl
      · rw [if_neg q2]; simp
    · rw [if_neg q1]
      cases h1 : sLt u.cps.toList u'.cps.toList with
      | true => rfl
      | false =>
        cases h2 : sLt u'.cps.toList u.cps.toList with
        | true => rfl
        | false => exact absurd (toList_inj.mpr (strOrd.total _ _ h1 h2)) q1
  rw [e0] at hC
  refine kat_lt o1 rfl o2 rfl (kat_cons (EqAt.str_str u t u' t2 c.prog c.w _ _ (kat_go (fun q1 => kat_yes (kat_cons (EqAt.str_str w t' w' t2' c.prog c.w _ _ (kat_go (fun q2 => kat_yes (kat_nil ?_)) fun q2 => kat_no ?_)))) fun q1 => kat_no ?_)))
  · rw [if_pos q1, if_pos q2] at hC; exact hC
  · rw [if_pos q1, if_neg (by rw [q2]; decide)] at hC
    exact kat_one _ _ (P.lt_str hC)
  · rw [if_neg (by rw [q1]; decide)] at hC
    exact oneLt_str hC
theorem getD_at (X : List Pr) (m : Nat) (h : m < X.length) : X.getD m [] = X[m] := by simp [List.getD_eq_getElem?_getD, h]
theorem askB {vs : List Value} {ks : List Key} (hu : A.units + 16 < cLine) (hk : ∀ i (h : i < vs.length), KeyB (fun a o => s.heap.get? a = some o) ρ vs[i] (ks.getD i []))
    (i j : Nat) (hi : i < vs.length) (hj : j < vs.length) (C : Bool → Shared → Prop) (h : C (olt (O := keyOrd) (fun i => ks.getD i []) i j) s) : kas_ask c.prog c.w A oneType' vs i j C s := by
  refine nng fun nG => ?_
  obtain ⟨a, n, us, ds, e1, o1, l1, z1, k1⟩ := hk i hi
  obtain ⟨a', n', us', ds', e2, o2, l2, z2, k2⟩ := hk j hj
  refine nG ?_
  clear nG
  unfold kas_ask
  have g1 : vs.getD i Value.none = .ref a := by simp [List.getD_eq_getElem?_getD, hi, e1]
  have g2 : vs.getD j Value.none = .ref a' := by simp [List.getD_eq_getElem?_getD, hj, e2]
  rw [g1, g2, keyLt'_oneType, oneLt'_eq]
  simp only [if_true]
  refine wpAny_bind (wpAny_cRoomFor (by lia) ?_)
  refine wpAny_bind (wpAny_callSpecialIfBound?_slot (T := "list") ⟨_, o1, rfl⟩ F.slot_list_lt ?_)
  obtain ⟨p1, p2⟩ := pairsOf_at l1 k1
  have p1 : _ = us.length := (congrArg List.length p1).symm.trans l1.length.symm
  rw [List.length_map] at p1
  obtain ⟨p1', p2'⟩ := pairsOf_at l2 k2
  have p1' : _ = us'.length := (congrArg List.length p1').symm.trans l2.length.symm
  rw [List.length_map] at p1'
  have in1u := in1_units A
  have in2u := in1_units A.in1
  have hE : ∀ m (h1 : m < us.toArray.size) (h2 : m < us'.toArray.size), EqAt A.in1 s us.toArray[m] us'.toArray[m] (decide ((ks.getD i []).getD m [] = (ks.getD j []).getD m [])) := fun m h1 h2 => by
    refine nng fun nG => ?_
    obtain ⟨b1, m1, u, w, t, t', f1, q1, x1⟩ := p2 m (by simpa using h1)
    obtain ⟨b2, m2, u2, w2, t2, t2', f2, q2, x2⟩ := p2' m (by simpa using h2)
    refine nG ?_
    clear nG
    simp only [List.getElem_toArray]
    rw [f1, f2, x1, x2]
    exact pr_eq (by lia) q1 q2
  have hL : ∀ m (h1 : m < us.toArray.size) (h2 : m < us'.toArray.size), LtAt A.in1 s us.toArray[m] us'.toArray[m] (prLt ((ks.getD i []).getD m []) ((ks.getD j []).getD m [])) := fun m h1 h2 => by
    refine nng fun nG => ?_
    obtain ⟨b1, m1, u, w, t, t', f1, q1, x1⟩ := p2 m (by simpa using h1)
    obtain ⟨b2, m2, u2, w2, t2, t2', f2, q2, x2⟩ := p2' m (by simpa using h2)
    refine nG ?_
    clear nG
    simp only [List.getElem_toArray]
    rw [f1, f2, x1, x2]
    exact pr_lt (by lia) q1 q2
  have e := lexAt_lex (O := prOrd) (ks.getD i []) (ks.getD j []) (fun m => decide ((ks.getD i []).getD m [] = (ks.getD j []).getD m [])) (fun m => prLt ((ks.getD i []).getD m []) ((ks.getD j []).getD m [])) 0 (fun m h1 h2 => by
      simp only [Nat.zero_add, decide_eq_true_eq]
      exact Iff.of_eq (congr (congrArg Eq (getD_at _ m h1)) (getD_at _ m h2))) (fun m h1 h2 => by
      simp only [Nat.zero_add]
      exact congr (congrArg prLt (getD_at _ m h1)) (getD_at _ m h2))
  have s1 : us.toArray.size = (ks.getD i []).length := by rw [List.size_toArray, p1]
  have s2 : us'.toArray.size = (ks.getD j []).length := by rw [List.size_toArray, p1']
  have e : lexAt (fun m => decide ((ks.getD i []).getD m [] = (ks.getD j []).getD m [])) (fun m => prLt ((ks.getD i []).getD m []) ((ks.getD j []).getD m [])) (decide ((ks.getD i []).length < (ks.getD j []).length)) (min (ks.getD i []).length (ks.getD j []).length) 0 = keyLt (ks.getD i []) (ks.getD j []) := e
  rw [← s1, ← s2] at e
  refine call_meets F.slot_list_lt ⟨_, o1, rfl⟩ F.entry_list_lt (F.args_list_lt_2 _ _) (list_ltAt a a' us.toArray us'.toArray n n' none none #[] #[] _ _) ⟨o1, o2, hE, hL, ?_⟩
  rw [e]
  exact wpAny_truthy_bool h
theorem looks_at {h : Heap} {a : Addr} {o : Obj} (e : h.get? a = some o) : Looks (model c.prog c.w) h (typeOf (.ref a)) o.cls := (Looks.ld e).andThen .now
theorem kindA {E : Value → Shared → Prop} {vs : List Value} {ks : List Key} (h2 : 2 ≤ vs.length) (hk : ∀ i (h : i < vs.length), KeyA (fun a o => s.heap.get? a = some o) vs[i] (ks.getD i []))
    (Q : SortKind → Shared → Prop) (h : Q (tuples' true) s) : wpAny (model c.prog c.w) A (keyKind' vs.toArray) Q E s := by
  have all : ∀ (vs : List Value), (∀ v ∈ vs, ∃ (a : Addr) (n : Nat) (u w : Str) (t t' : Tok), v = .ref a ∧ s.heap.get? a = some (tupObj [.str u t, .str w t'] n)) → ∃ fs : List Value, fs.length = vs.length ∧ KatTups s.heap vs fs ∧ ∀ v ∈ fs, ∃ u t, v = Value.str u t := by
    intro vs
    induction vs with
    | nil => intro _; exact ⟨[], rfl, KatTups.nil, fun v hv => by cases hv⟩
    | cons v r ih =>
      intro hv
      refine nng fun nG => ?_
      obtain ⟨a, n, u, w, t, t', rfl, o⟩ := hv v (.head _)
      obtain ⟨fs, f1, f2, f3⟩ := ih fun v q => hv v (.tail _ q)
      refine nG ?_
      clear nG
      exact ⟨.str u t :: fs, by simp [f1], KatTups.cons o rfl rfl rfl f2, fun v q => by
        rcases List.mem_cons.mp q with rfl | q
        · exact ⟨u, t, rfl⟩
        · exact f3 v q⟩
  obtain ⟨fs, f1, f2, f3⟩ := all vs fun v hv => by
    refine nng fun nG => ?_
    obtain ⟨i, hi, rfl⟩ := List.mem_iff_getElem.mp hv
    obtain ⟨x, ⟨a, n, u, w, t, t', e, o, _⟩, _⟩ := hk i hi
    refine nG ?_
    clear nG
    exact ⟨a, n, u, w, t, t', e, o⟩
  exact kat_kind (T := .type "str") f2 (by lia) (fun v hv => by obtain ⟨u, t, rfl⟩ := f3 v hv; exact .now) (by decide) h
theorem sort_ok {l : List D} {lv : Value} (R : Rm n A) (W : Wf c fm ρ st s) (ha : Lay (Out (fm ++ ρ) s.heap) ρ lv x) (hl : asList st x = some l) (h : sortD l = some d) : Op c A (call (.builtin "sorted") [lv]) fm ρ d s := by
  refine nng fun nG => ?_
  obtain ⟨a', vs, nL, rfl, hL0, ls⟩ := asList_at W ha hl
  have hL := lst_isList hL0
  have hlen := ls.length
  have uc := R.c64
  obtain ⟨h64, h⟩ := if_ok h
  refine nG ?_
  clear nG
  have h64' : vs.length < 64 := by rw [hlen]; exact h64
  -- what both roads share
  have go : ∀ (ks : List Key) (κ : SortKind) (dec : Key → D), l = ks.map dec → d = .lst ((sortK ks).map dec) →
      (∀ s', (∀ b o, s.heap.get? b = some o → s'.heap.get? b = some o) → 2 ≤ vs.length → ∀ (E : Value → Shared → Prop) (Q : SortKind → Shared → Prop), Q κ s' → wpAny (model c.prog c.w) A.in1.in1 (keyKind' vs.toArray) Q E s') →
      (∀ s', (∀ b o, s.heap.get? b = some o → s'.heap.get? b = some o) → ∀ i j, i < vs.length → j < vs.length → ∀ C : Bool → Shared → Prop, C (olt (O := keyOrd) (fun i => ks.getD i []) i j) s' → kas_ask c.prog c.w A.in1.in1 κ vs i j C s') →
      Op c A (call (.builtin "sorted") [.ref a']) fm ρ d s := by
    intro ks κ dec k2 k3 hk hc Q hQ
    have k1 : ks.length = l.length := by rw [k2, List.length_map]
    refine Calls.call_function_entry kind_sorted plain_sorted entry_sorted (args_sorted1 _) ?_
    unfold Builtin.«sorted»
    refine wpAny_bind (m := checkCount "sorted" 1 1 _) (wpAny_pure ?_)
    refine wpAny_bind (collect_list hL ?_ (by rw [sizeLine_eq]; lia))
    refine wpAny_bind (wpAny_newList ?_ (by rw [sizeLine_eq]; lia))
    have hsz : ((s.heap.push (seqObj "list" #[] 0)).update s.heap.objs.size (Obj.mapSeq (· ++ vs.toArray))).objs.size = s.heap.objs.size + 1 := by
      rw [Heap.size_update, size_push']
    have hoL : (((s.heap.push (seqObj "list" #[] 0)).update s.heap.objs.size (Obj.mapSeq (· ++ vs.toArray))).push (seqObj "list" vs.toArray 0)).get? (s.heap.objs.size + 1) = some (seqObj "list" vs.toArray 0) := by
      rw [← hsz]; exact Heap.get?_push_size _ rfl
    have keep : ∀ b o, s.heap.get? b = some o → (((s.heap.push (seqObj "list" #[] 0)).update s.heap.objs.size (Obj.mapSeq (· ++ vs.toArray))).push (seqObj "list" vs.toArray 0)).get? b = some o := fun b o q => by
      have hlt : b < s.heap.objs.size := Heap.lt_size q
      rw [Heap.get?_push_ne _ _ _ (by rw [hsz]; exact Nat.ne_of_lt (Nat.lt_succ_of_lt hlt)), Heap.get?_update_ne _ _ _ _ (Nat.ne_of_lt hlt), Heap.get?_push_ne _ _ _ (Nat.ne_of_lt hlt)]
      exact q
    have ne : ∀ b o, s.heap.get? b = some o → b ≠ s.heap.objs.size + 1 := fun b o q e => by subst e; exact absurd (Heap.lt_size q) (Nat.not_lt.mpr (Nat.le_succ _))
    show wpAny _ _ _ _ _ { s with heap := ((s.heap.push (seqObj "list" #[] 0)).update s.heap.objs.size (Obj.mapSeq (· ++ vs.toArray))).push (seqObj "list" vs.toArray 0) }
    rw [hsz]
    refine wpAny_bind (wpAny_holding (wpAny_call_entry slot_list_sort ⟨_, hoL, rfl⟩ entry_list_sort ?body (args_list_sort _)))
    case body =>
      refine list_sort_by (s := { s with heap := ((s.heap.push (seqObj "list" #[] 0)).update s.heap.objs.size (Obj.mapSeq (· ++ vs.toArray))).push (seqObj "list" vs.toArray 0) }) (κ := κ) (lt := olt (O := keyOrd) fun i => ks.getD i []) hoL h64'
        (fun s' ks' h2 Q' hq => hk s' (fun b o q => ks' b o (ne b o q) (keep b o q)) h2 _ Q' hq) (fun s' ks' => hc s' fun b o q => ks' b o (ne b o q) (keep b o q)) fun h' cc k' ho' => ?_
      refine ⟨_, rfl, wpAny_pure ⟨_, rfl, ?_⟩⟩
      have kk' : ∀ b o, s.heap.get? b = some o → h'.get? b = some o := fun b o q => k' b o (ne b o q) (keep b o q)
      have K := kp_mk (s := s) (tk := s.toks) kk'
      have hn1 : s.heap.get? (s.heap.objs.size + 1) = none := by
        cases e : s.heap.get? (s.heap.objs.size + 1) with
        | none => rfl
        | some o => exact absurd (Heap.lt_size e) (Nat.not_lt.mpr (Nat.le_succ _))
      have hl2 : Lays (Out (fm ++ ρ) h') ρ (outOf (olt (O := keyOrd) fun i => ks.getD i []) vs) ((sortK ks).map dec) := by
        have ls' := (kp_adv K ρ).lays (fm := fm) ls
        unfold outOf
        by_cases h2 : vs.length < 2
        · rw [if_pos h2]
          have : sortK ks = ks := by
            match ks, (show ks.length < 2 by lia) with
            | [], _ => rfl
            | [k], _ => rfl
          rw [this, ← k2]; exact ls'
        · rw [if_neg h2, ← tree_keys ks (by lia), k1, ← hlen, List.map_map]
          have hmem : ∀ i ∈ (kev (olt (O := keyOrd) fun i => ks.getD i []) (kas_sort vs.length)).toList, i < vs.length := fun i hi => by
            have hp := (sort_tree (O := keyOrd) (K := fun i => ks.getD i []) (n := vs.length) (by lia)).1
            have := (Array.perm_iff_toList_perm.mp hp).mem_iff.mp hi
            simpa using this
          generalize (kev (olt (O := keyOrd) fun i => ks.getD i []) (kas_sort vs.length)).toList = is at hmem
          induction is with
          | nil => exact .nil
          | cons i r ih =>
            refine .cons ?_ (ih fun j hj => hmem j (.tail _ hj))
            have hi := hmem i (.head _)
            obtain ⟨d', e1, l1⟩ := ls'.get' (List.getElem?_eq_getElem hi)
            have e2 : vs.getD i Value.none = vs[i] := by simp [List.getD_eq_getElem?_getD, hi]
            have e3 : d' = dec (ks.getD i []) := by
              rw [k2, List.getElem?_map] at e1
              obtain ⟨k, q1, q2⟩ := Option.map_eq_some_iff.mp e1
              rw [List.getD_eq_getElem?_getD, q1]; exact q2.symm
            show Lay _ _ (vs.getD i Value.none) (dec (ks.getD i []))
            rw [e2, ← e3]; exact l1
      rw [k3] at hQ
      exact hQ _ _ K (.lst (n := cc) (W.out_new (s' := { s with heap := h', toks := s.toks }) hn1 ho') hl2)
  have lsH : ∀ s' : Shared, (∀ b o, s.heap.get? b = some o → s'.heap.get? b = some o) → Lays (fun a o => s'.heap.get? a = some o) ρ vs l := fun s' k => ls.mono (fun a o q => k a o q.1) fun _ _ e => e
  have u2 := in2_units A
  have hA : ∀ ks, keysA l = some ks → d = .lst ((sortK ks).map decA) → Op c A (call (.builtin "sorted") [.ref a']) fm ρ d s := fun ks e1 e2 => by
    refine nng fun nG => ?_
    obtain ⟨b2, _⟩ := keysA_at ls e1
    refine nG ?_
    clear nG
    exact go ks (tuples' true) decA b2 e2 (fun s' k h2 E Q hq => kindA h2 (keysA_at (lsH s' k) e1).2 Q hq) fun s' k i j hi hj C hC => askA (by lia) (keysA_at (lsH s' k) e1).2 i j hi hj C hC
  have hB : ∀ ks, keysB l = some ks → d = .lst ((sortK ks).map decB) → Op c A (call (.builtin "sorted") [.ref a']) fm ρ d s := fun ks e1 e2 => by
    obtain ⟨b2, _⟩ := keysB_at ls e1
    refine go ks oneType' decB b2 e2 (fun s' k h2 E Q hq => ?_) fun s' k i j hi hj C hC => askB (by lia) (keysB_at (lsH s' k) e1).2 i j hi hj C hC
    refine kas_kind (T := .type "list") h2 (fun v hv => ?_) (by decide) (by decide) hq
    refine nng fun nG => ?_
    obtain ⟨i, hi, rfl⟩ := List.mem_iff_getElem.mp hv
    obtain ⟨a, n, us, ds, e, o, _⟩ := (keysB_at (lsH s' k) e1).2 i hi
    refine nG ?_
    clear nG
    rw [e]
    exact looks_at (c := c) o
  rcases orP_ok h with h | h
  · obtain ⟨ks, e1, e2⟩ := mp_ok h
    exact hA ks e1 e2.symm
  · obtain ⟨ks, e1, e2⟩ := mp_ok h
    exact hB ks e1 e2.symm
end
end Mine.Internal
end
section
open PySem PySem.W PySem.Calls PyProof.Rows PySem.Builtin PySem.Builtin.Str
set_option Elab.async false
set_option linter.unusedVariables false
namespace Mine.Internal
section
variable {c : Cx} {A : Around} {fm ρ : List Addr} {st : Store} {s : Shared} {a b : Value} {x y d : D} {n : Nat}

theorem leP_ok {n : Nat} {d e : D} (h : leP' n d = some e) : n ≤ lid ∧ d = e := by
  obtain ⟨hl, h⟩ := if_ok h
  exact ⟨hl, Option.some.inj h⟩
theorem lays1 {P : Addr → Obj → Prop} {ρ : List Addr} {vs : List Value} {d : D} (h : Lays P ρ vs [d]) : ∃ v, vs = [v] ∧ Lay P ρ v d := by
  obtain ⟨v, us, rfl, p, r⟩ := h.consI; rw [r.nilI]; exact ⟨_, rfl, p⟩
theorem lays2 {P : Addr → Obj → Prop} {ρ : List Addr} {vs : List Value} {d e : D} (h : Lays P ρ vs [d, e]) : ∃ v u, vs = [v, u] ∧ Lay P ρ v d ∧ Lay P ρ u e := by
  obtain ⟨v, us, rfl, p, r⟩ := h.consI; obtain ⟨u, rfl, q⟩ := lays1 r; exact ⟨_, _, rfl, p, q⟩
theorem lays3 {P : Addr → Obj → Prop} {ρ : List Addr} {vs : List Value} {d e f : D} (h : Lays P ρ vs [d, e, f]) : ∃ v u w, vs = [v, u, w] ∧ Lay P ρ v d ∧ Lay P ρ u e ∧ Lay P ρ w f := by
  obtain ⟨v, us, rfl, p, r⟩ := h.consI; obtain ⟨u, w, rfl, q⟩ := lays2 r; exact ⟨_, _, _, rfl, p, q⟩

theorem len_okF (W : Wf c fm ρ st s) (ha : LO fm ρ s a x) (h : lenF st x = some d) : Op c A (call (.builtin "len") [a]) fm ρ d s := by
  rcases orP_ok h with h | h
  · obtain ⟨z, h1, h⟩ := bd_ok h
    rw [dS_ok h1] at ha
    obtain ⟨u, rfl⟩ := ha.strI
    obtain ⟨hl, rfl⟩ := leP_ok h
    have e : lid = 1048576 := rfl
    exact op_int fun Q hQ => len_str (by omega) (hQ _ _)
  · obtain ⟨l, h1, h⟩ := bd_ok h
    obtain ⟨hl, rfl⟩ := leP_ok h
    exact len_ok (listAt_of W ha h1) hl
theorem fl3_at {P : Addr → Obj → Prop} {ρ : List Addr} {f : UInt64 → UInt64 → UInt64 → UInt64} {q : D × D × D} {vs : List Value} (hs : Lays P ρ vs [q.1, q.2.1, q.2.2]) (h : fl3 f q = some d) : ∃ i j k t u v, vs = [.float i t, .float j u, .float k v] ∧ d = .flt (f i j k) := by
  refine nng fun nG => ?_
  obtain ⟨i, h1, h⟩ := bd_ok h
  obtain ⟨j, h2, h⟩ := bd_ok h
  obtain ⟨k, h3, h⟩ := mp_ok h
  rw [dF_ok h1, dF_ok h2, dF_ok h3] at hs
  obtain ⟨_, _, _, rfl, ha, hb, hc⟩ := lays3 hs
  obtain ⟨t, rfl⟩ := ha.fltI
  obtain ⟨u, rfl⟩ := hb.fltI
  obtain ⟨v, rfl⟩ := hc.fltI
  refine nG ?_
  clear nG
  exact ⟨_, _, _, _, _, _, rfl, h.symm⟩
theorem flt_pick {b : Bool} {q r : UInt64} {t u : Tok} (P : Addr → Obj → Prop) : Lay P ρ (if b = true then .float q t else .float r u) (.flt (if b = true then q else r)) := by
  cases b <;> exact .flt _ _
theorem max3_ok {vs : List Value} {q : D × D × D} (R : Rm n A) (W : Wf c fm ρ st s) (hs : Lays (Out (fm ++ ρ) s.heap) ρ vs [q.1, q.2.1, q.2.2]) (h : fl3 maxF q = some d) : Op c A (call (.builtin "max") vs) fm ρ d s := by
  obtain ⟨a, b, e, t, u, v, rfl, rfl⟩ := fl3_at hs h
  refine op_keeps W fun Q hQ => max3_num R.1 (.float _ _) (.float _ _) (.float _ _) fun h' tk k => hQ _ _ _ k fun P => ?_
  unfold maxF
  cases hc : Flt.ltV (.float a t) (.float b u)
  · have hc' : flt a b = false := hc
    rw [hc']
    exact flt_pick (b := flt a e) P
  · have hc' : flt a b = true := hc
    rw [hc']
    exact flt_pick (b := flt b e) P
theorem min3_ok {vs : List Value} {q : D × D × D} (R : Rm n A) (W : Wf c fm ρ st s) (hs : Lays (Out (fm ++ ρ) s.heap) ρ vs [q.1, q.2.1, q.2.2]) (h : fl3 minF q = some d) : Op c A (call (.builtin "min") vs) fm ρ d s := by
  obtain ⟨a, b, e, t, u, v, rfl, rfl⟩ := fl3_at hs h
  refine op_keeps W fun Q hQ => min3_num R.1 (.float _ _) (.float _ _) (.float _ _) fun h' tk k => hQ _ _ _ k fun P => ?_
  unfold minF
  cases hc : Flt.ltV (.float b u) (.float a t)
  · have hc' : flt b a = false := hc
    rw [hc']
    exact flt_pick (b := flt e a) P
  · have hc' : flt b a = true := hc
    rw [hc']
    exact flt_pick (b := flt e b) P
theorem int_pick {p : Prop} [Decidable p] {q r : Int} {t u : Tok} (P : Addr → Obj → Prop) : Lay P ρ (if p then .int q t else .int r u) (.int (if p then q else r)) := by
  split <;> exact .int _ _
theorem ltV_int (i j : Int) (t u : Tok) : Flt.ltV (.int i t) (.int j u) = decide (i < j) := rfl
theorem fnP_ok {f : Fn} {vs : List Value} {ds : List D} (R : Rm n A) (W : Wf c fm ρ st s) (hs : Lays (Out (fm ++ ρ) s.heap) ρ vs ds) (h : fnP st f ds = some d) : Op c A (call f.val vs) fm ρ d s := by
  cases f with
  | len =>
    obtain ⟨z, h1, h⟩ := bd_ok h
    rw [un1_ok h1] at hs
    obtain ⟨_, rfl, ha⟩ := lays1 hs
    exact len_okF W ha h
  | minL =>
    obtain ⟨z, h1, h⟩ := bd_ok h
    rw [un1_ok h1] at hs
    obtain ⟨_, rfl, ha⟩ := lays1 hs
    obtain ⟨l, h2, h⟩ := bd_ok h
    obtain ⟨ns, e1, h⟩ := bd_ok h
    obtain ⟨m, e2, rfl⟩ := mp_ok h
    obtain ⟨l', vs, rfl, ho, hl⟩ := (listAt_of W ha h2).ex
    exact op_keeps W fun Q hQ => min_keeps R.1 ho (hl.ints e1) e2 fun h' tk t' k => hQ _ _ _ k fun P => .int _ _
  | maxL =>
    obtain ⟨z, h1, h⟩ := bd_ok h
    rw [un1_ok h1] at hs
    obtain ⟨_, rfl, ha⟩ := lays1 hs
    obtain ⟨l, h2, h⟩ := bd_ok h
    obtain ⟨ns, e1, h⟩ := bd_ok h
    obtain ⟨m, e2, rfl⟩ := mp_ok h
    obtain ⟨l', vs, rfl, ho, hl⟩ := (listAt_of W ha h2).ex
    exact op_keeps W fun Q hQ => max_keeps R.1 ho (hl.ints e1) e2 fun h' tk t' k => hQ _ _ _ k fun P => .int _ _
  | min2 =>
    obtain ⟨z, h1, h⟩ := bd_ok h
    rw [un2_ok h1] at hs
    obtain ⟨_, _, rfl, ha, hb⟩ := lays2 hs
    obtain ⟨i, j, t, u, rfl, rfl, h⟩ := ii_at ha hb h
    cases h
    refine op_keeps W fun Q hQ => Flt.min_two_num R.1 (.int _ _) (.int _ _) fun h' tk k => hQ _ _ _ k fun P => ?_
    rw [ltV_int]
    simp only [decide_eq_true_eq]
    exact int_pick P
  | max2 =>
    obtain ⟨z, h1, h⟩ := bd_ok h
    rw [un2_ok h1] at hs
    obtain ⟨_, _, rfl, ha, hb⟩ := lays2 hs
    obtain ⟨i, j, t, u, rfl, rfl, h⟩ := ii_at ha hb h
    cases h
    refine op_keeps W fun Q hQ => Flt.max_two_num R.1 (.int _ _) (.int _ _) fun h' tk k => hQ _ _ _ k fun P => ?_
    rw [ltV_int]
    simp only [decide_eq_true_eq]
    exact int_pick P
  | max3 =>
    obtain ⟨q, h1, h⟩ := bd_ok h
    rw [un3_ok h1] at hs
    exact max3_ok R W hs h
  | min3 =>
    obtain ⟨q, h1, h⟩ := bd_ok h
    rw [un3_ok h1] at hs
    exact min3_ok R W hs h
  | intF =>
    obtain ⟨z, h1, h⟩ := bd_ok h
    rw [un1_ok h1] at hs
    obtain ⟨_, rfl, ha⟩ := lays1 hs
    obtain ⟨x, h2, h⟩ := bd_ok h
    rw [dF_ok h2] at ha
    obtain ⟨t, rfl⟩ := ha.fltI
    cases hd : Float64.decode x with
    | fin sg m e => rw [hd] at h; cases h; exact op_int fun Q hQ => call_int_float hd (hQ _ _)
    | _ => rw [hd] at h; exact bad h
  | sumL =>
    obtain ⟨z, h1, h⟩ := bd_ok h
    rw [un1_ok h1] at hs
    obtain ⟨_, rfl, ha⟩ := lays1 hs
    obtain ⟨l, h2, h⟩ := bd_ok h
    obtain ⟨ns, e1, h⟩ := bd_ok h
    cases h
    obtain ⟨l', vs, rfl, ho, hl⟩ := (listAt_of W ha h2).ex
    exact op_keeps W fun Q hQ => sum_keeps R.1 ho (hl.ints e1) fun h' tk t' k => hQ _ _ _ k fun P => .int _ _
  | range1 =>
    obtain ⟨z, h1, h⟩ := bd_ok h
    rw [un1_ok h1] at hs
    obtain ⟨_, rfl, ha⟩ := lays1 hs
    obtain ⟨x, h2, h⟩ := bd_ok h
    rw [dI_ok h2] at ha
    obtain ⟨t, rfl⟩ := ha.intI
    obtain ⟨_, rfl⟩ := leP_ok h
    exact fun Q hQ => call_range_1 (hQ _ _ (kp_mk fun b o e => Heap.get?_push_of_some _ e) (.rng (W.out_new (size_none _) (Heap.get?_push_size _ rfl))))
  | range3 =>
    obtain ⟨q, h1, h⟩ := bd_ok h
    rw [un3_ok h1] at hs
    obtain ⟨_, _, _, rfl, ha, hb, hc⟩ := lays3 hs
    obtain ⟨x, h2, h⟩ := bd_ok h
    rw [dI_ok h2] at ha
    obtain ⟨t, rfl⟩ := ha.intI
    obtain ⟨y, h2, h⟩ := bd_ok h
    rw [dI_ok h2] at hb
    obtain ⟨u, rfl⟩ := hb.intI
    obtain ⟨z, h2, h⟩ := bd_ok h
    rw [dI_ok h2] at hc
    obtain ⟨v, rfl⟩ := hc.intI
    obtain ⟨hcc, h⟩ := if_ok h
    cases h
    intro Q hQ
    exact call_range_3 (by omega) (hQ _ _ (kp_mk fun b o e => Heap.get?_push_of_some _ e) (.rng (W.out_new (size_none _) (Heap.get?_push_size _ rfl)))) (Or.inl (PyProof.noPylong_small (by omega)))
  | strI =>
    obtain ⟨z, h1, h⟩ := bd_ok h
    rw [un1_ok h1] at hs
    obtain ⟨_, rfl, ha⟩ := lays1 hs
    obtain ⟨x, h2, h⟩ := bd_ok h
    rw [dI_ok h2] at ha
    obtain ⟨t, rfl⟩ := ha.intI
    obtain ⟨hh, h⟩ := if_ok h
    cases h
    exact op_str fun Q hQ => P.str_of_int hh (hQ _ _)
  | intS =>
    obtain ⟨z, h1, h⟩ := bd_ok h
    rw [un1_ok h1] at hs
    obtain ⟨_, rfl, ha⟩ := lays1 hs
    obtain ⟨x, h2, h⟩ := bd_ok h
    rw [dS_ok h2] at ha
    obtain ⟨t, rfl⟩ := ha.strI
    obtain ⟨hh, h⟩ := if_ok h
    obtain ⟨k, e1, rfl⟩ := mp_ok h
    exact op_int fun Q hQ => KIN.call_text e1 hh (hQ _ _)
  | sorted =>
    obtain ⟨z, h1, h⟩ := bd_ok h
    rw [un1_ok h1] at hs
    obtain ⟨_, rfl, ha⟩ := lays1 hs
    obtain ⟨l, h2, h⟩ := bd_ok h
    exact sort_ok R W ha h2 h

theorem meP_ok {m : Me} {vs : List Value} {ds : List D} {X : Str} {t : Tok} (W : Wf c fm ρ st s) (hs : Lays (Out (fm ++ ρ) s.heap) ρ vs ds) (h : meP st m (.str X) ds = some d) : Op c A (call (.builtin m.val) (.str X t :: vs)) fm ρ d s := by
  refine nng fun nG => ?_
  obtain ⟨X', h1, h⟩ := bd_ok h
  cases h1
  obtain ⟨z, h1, h⟩ := bd_ok h
  rw [un1_ok h1] at hs
  obtain ⟨_, rfl, ha⟩ := lays1 hs
  refine nG ?_
  clear nG
  cases m with
  | count =>
    obtain ⟨y, h2, rfl⟩ := mp_ok h
    rw [dS_ok h2] at ha
    obtain ⟨u, rfl⟩ := ha.strI
    exact op_int fun Q hQ => SC.count (hQ _ _)
  | index =>
    obtain ⟨y, h2, h⟩ := bd_ok h
    rw [dS_ok h2] at ha
    obtain ⟨u, rfl⟩ := ha.strI
    obtain ⟨hc, h⟩ := if_ok h
    cases h
    refine op_int fun Q hQ => ?_
    unfold Txt.contains at hc
    unfold Txt.find at hQ
    cases ho : occurrences X y 0 X.length 1 with
    | nil => rw [ho] at hc; cases hc
    | cons i r => rw [ho] at hQ; exact SC.index ho (hQ _ _)
  | join =>
    refine nng fun nG => ?_
    obtain ⟨l, h2, h⟩ := bd_ok h
    obtain ⟨t, e1, h⟩ := bd_ok h
    obtain ⟨hok, h⟩ := if_ok h
    cases h
    obtain ⟨l', vs, rfl, ho, hl⟩ := (listAt_of W ha h2).ex
    obtain ⟨l, rfl, ht⟩ := hl.strs e1
    refine nG ?_
    clear nG
    exact op_str fun Q hQ => SC.join ho ht hok hQ
  | split =>
    obtain ⟨y, h2, h⟩ := bd_ok h
    rw [dS_ok h2] at ha
    obtain ⟨u, rfl⟩ := ha.strI
    obtain ⟨hy, h⟩ := if_ok h
    cases h
    intro Q hQ
    refine split_push (by simpa using hy.1) (fun l k e => hQ _ _ (kp_mk fun b o e => Heap.get?_push_of_some _ e) ?_) (Nat.le_trans hy.2 (by decide))
    rw [← e]
    exact .lst (n := 0) (W.out_new (size_none _) (Heap.get?_push_size _ rfl)) (lays_strs l)
end
end Mine.Internal
end
section
open PySem PySem.W PySem.Calls PyProof.Rows
set_option Elab.async false
set_option linter.unusedVariables false
namespace Mine.Internal

noncomputable def nsl (e : Expr) : Bool := !(Nat.beq e.ctorIdx 26) && !(Nat.beq e.ctorIdx 22)
noncomputable def nset (e : Expr) : Bool := !(Nat.beq e.ctorIdx 7)
theorem nsl_sub {e : Expr} (h : nsl e = true) (o i : Value) : subscripted e false o i = operate [o, i] (getItem o i) := by
  cases e <;> first | rfl | exact Bool.noConfusion h
theorem nsl_star {e : Expr} (h : nsl e = true) (rest : List Expr) (env : Env) : starEach (e :: rest) env = (false, eval e env) :: starEach rest env := by
  cases e <;> first | rfl | exact Bool.noConfusion h
theorem nsl_mark {e : Expr} {op : CmpOp} (h : nset e = true) : behindInMarks op e = false := by
  cases e <;> first | rfl | exact Bool.noConfusion h

section
variable {c : Cx} {A : Around} {kd : Str → Option NameKind} {sc : List (Str × Nat)} {σ : Vars} {st st₁ st₂ st₃ : Store} {x y d : D} {n : Nat} {pos : Pos}

theorem e_op {t : Value → Value → Sem Value} {a b : Expr} {e : Expr} (ha : EvE c A kd sc a σ st x st₁) (hb : EvE c A kd sc b σ st₁ y st₂)
    (hr : ∀ env s Q, wpAny (model c.prog c.w) A (eval a env) (fun va s₁ => wpAny (model c.prog c.w) A (eval b env) (fun vb s₂ => wpAny (model c.prog c.w) A (t va vb) Q (fun _ _ => False) s₂) (fun _ _ => False) s₁) (fun _ _ => False) s → wpAny (model c.prog c.w) A (eval e env) Q (fun _ _ => False) s)
    (ho : ∀ fm ρ s va vb, Wf c fm ρ st₂ s → Lay (Out (fm ++ ρ) s.heap) ρ va x → Lay (Out (fm ++ ρ) s.heap) ρ vb y → Op c A (t va vb) fm ρ d s) : EvE c A kd sc e σ st d st₂ := by
  intro env fm ρ s F W V Q hQ
  refine hr env s Q (ha env fm ρ s F W V _ fun va s1 ρ1 W1 A1 la => hb env fm ρ1 s1 (F.adv W A1) W1 (V.adv F W A1) _ fun vb s2 ρ2 W2 A2 lb =>
    ho fm ρ2 s2 va vb W2 (A2.lay la) lb _ fun v s3 k l => hQ v s3 ρ2 (W2.keeps k) (A1.trans (A2.trans (kp_adv k ρ2))) l)

theorem e_bin {op : Operator} {a b : Expr} (ha : EvE c A kd sc a σ st x st₁) (hb : EvE c A kd sc b σ st₁ y st₂) (h : binP op x y = some d) : EvE c A kd sc (.BinOp a op b pos) σ st d st₂ :=
  e_op ha hb (fun env s Q => wpAny_BinOp) fun fm ρ s va vb W la lb => binP_ok W la lb h
theorem e_cmp {op : CmpOp} {a b : Expr} {r : Bool} (R : Rm n A) (hn : nset b = true) (ha : EvE c A kd sc a σ st x st₁) (hb : EvE c A kd sc b σ st₁ y st₂) (h : cmpP st₂ op x y = some r) : EvE c A kd sc (.Compare a [op] [b] pos) σ st (.bool r) st₂ :=
  e_op ha hb (fun env s Q hw => wpAny_Compare1 hw (nsl_mark hn)) fun fm ρ s va vb W la lb => cmpP_ok R W la lb h
theorem e_idx {a b : Expr} (hn : nsl b = true) (ha : EvE c A kd sc a σ st x st₁) (hb : EvE c A kd sc b σ st₁ y st₂) (h : idxP st₂ x y = some d) : EvE c A kd sc (.Subscript a b pos) σ st d st₂ :=
  e_op ha hb (fun env s Q => Subscript_) fun fm ρ s va vb W la lb => idxP_ok W la lb h (nsl_sub hn _ _)
theorem e_neg {a : Expr} {i : Int} (ha : EvE c A kd sc a σ st (.int i) st₁) : EvE c A kd sc (.UnaryOp .USub a pos) σ st (.int (-i)) st₁ := by
  intro env fm ρ s F W V Q hQ
  exact wpAny_UnaryOp (ha env fm ρ s F W V _ fun va s1 ρ1 W1 A1 la => neg_ok la _ fun v s3 k l => hQ v s3 ρ1 (W1.keeps k) (A1.trans (kp_adv k ρ1)) l)
theorem e_ite {t a b : Expr} {r : Bool} (ht : EvT c A kd sc t σ st r st₁) (ha : EvE c A kd sc (if r = true then a else b) σ st₁ d st₂) : EvE c A kd sc (.IfExp t a b pos) σ st d st₂ := by
  intro env fm ρ s F W V Q hQ
  refine wpAny_IfExp (ht env fm ρ s F W V _ fun s1 ρ1 W1 A1 => ?_)
  have := ha env fm ρ1 s1 (F.adv W A1) W1 (V.adv F W A1) Q fun v s2 ρ2 W2 A2 l => hQ v s2 ρ2 W2 (A1.trans A2) l
  cases r <;> exact this

noncomputable def cst : Const → Option D
  | .none => some .none
  | .bool b => some (.bool b)
  | .int i => some (.int i)
  | .float b => some (.flt b)
  | .str x => some (.str x)
  | _ => .none
theorem e_lit {k : Const} {j : Nat} (h : cst k = some d) : EvE c A kd sc (.Constant k j pos) σ st d st := by
  intro env fm ρ s F W V Q hQ
  have kt := kp_tok s (s.toks + 1)
  unfold cst at h
  split at h <;> cases h
  · exact wpAny_Constant_none (hQ _ _ ρ W (Adv.refl _ _) .none)
  · exact wpAny_Constant_bool (hQ _ _ ρ W (Adv.refl _ _) (.bool _))
  · exact wpAny_Constant_int (hQ _ _ ρ (W.keeps kt) (kp_adv kt ρ) (.int _ _))
  · exact wpAny_Constant_float (hQ _ _ ρ (W.keeps kt) (kp_adv kt ρ) (.flt _ _))
  · exact wpAny_Constant_str (hQ _ _ ρ (W.keeps kt) (kp_adv kt ρ) (.str _ _))

noncomputable def okName (x : Str) : Bool := !(x == ("__debug__" : Str)) && !(x == ("__classdict__" : Str))
theorem load_ok {env : Env} {fm : List Addr} {s : Shared} {x : Str} {v : Value} {Q : Value → Shared → Prop} (F : Fm kd sc env fm s.heap) (hx : okName x = true) (h : VarAt env s.heap x v) (hQ : Q v s) :
    wpAny (model c.prog c.w) A (loadName env x) Q (fun _ _ => False) s := by
  simp only [okName, Bool.and_eq_true, Bool.not_eq_true'] at hx
  rcases h with ⟨k, m, hn, hm⟩ | ⟨k, cc, hc, hv⟩
  · exact wpAny_loadName_local F.kind k hn hm hQ
  · rcases k with k | k
    · exact wpAny_loadName_cell F.kind k hc hv hQ
    · exact wpAny_loadName_free F.kind k hc hv hQ hx.2
theorem e_var {x : Str} {i : Nat} (hx : okName x = true) (hs : (x, i) ∈ sc) (h : σ.get i = some d) : EvE c A kd sc (.Name x pos) σ st d st := by
  intro env fm ρ s F W V Q hQ
  have hd : (x == ("__debug__" : Str)) = false := by simp only [okName, Bool.and_eq_true, Bool.not_eq_true'] at hx; exact hx.1
  obtain ⟨v, hv, l⟩ := V _ hs d h
  exact wpAny_Name (load_ok F hx hv (hQ v s ρ W (Adv.refl _ _) l)) hd

noncomputable def EvL (c : Cx) (A : Around) (kd : Str → Option NameKind) (sc : List (Str × Nat)) (l : List Expr) (σ : Vars) (st : Store) (ds : List D) (st' : Store) : Prop :=
  ∀ (pos : Pos) (env : Env) (fm ρ : List Addr) (s : Shared), Fm kd sc env fm s.heap → Wf c fm ρ st s → Vr sc env fm ρ σ s.heap →
    ∀ Q : List Value → Shared → Prop, (∀ v s' ρ', Wf c fm ρ' st' s' → Adv ρ ρ' s s' → Lays (Out (fm ++ ρ') s'.heap) ρ' v ds → Q v s') →
      wpAny (model c.prog c.w) A (spliced (backTo pos (starEach l env))) Q (fun _ _ => False) s
theorem l_nil : EvL c A kd sc [] σ st [] st := fun pos env fm ρ s F W V Q hQ => wpAny_items_nil (hQ _ _ ρ W (Adv.refl _ _) .nil)
theorem l_cons {e : Expr} {r : List Expr} {ds : List D} (hn : nsl e = true) (he : EvE c A kd sc e σ st d st₁) (hr : EvL c A kd sc r σ st₁ ds st₂) : EvL c A kd sc (e :: r) σ st (d :: ds) st₂ := by
  intro pos env fm ρ s F W V Q hQ
  refine wpAny_items_cons (he env fm ρ s F W V _ fun v s1 ρ1 W1 A1 l => hr pos env fm ρ1 s1 (F.adv W A1) W1 (V.adv F W A1) _ fun vs s2 ρ2 W2 A2 ls => hQ _ _ ρ2 W2 (A1.trans A2) (.cons (A2.lay l) ls)) (nsl_star hn _ _)
theorem push_new {fm ρ : List Addr} {s : Shared} {o : Obj} (W : Wf c fm ρ st s) (ho : o.isFreed = false) : Out (fm ++ ρ) (s.heap.push o) s.heap.objs.size o :=
  W.out_new (s := s) (s' := { s with heap := s.heap.push o }) (size_none _) (Heap.get?_push_size _ ho)
theorem e_tup {l : List Expr} {j : Nat} {ds : List D} (h : EvL c A kd sc l σ st ds st₁) (hn : l.length ≤ lid) (hl : ds.length = l.length) : EvE c A kd sc (.Tuple l j pos) σ st (.tup ds) st₁ := by
  intro env fm ρ s F W V Q hQ
  refine wpAny_Tuple (h pos env fm ρ s F W V _ fun vs s1 ρ1 W1 A1 ls => ⟨by rw [ls.length, hl]; exact lid_size hn, ?_⟩)
  have k := kp_push s1 (tupObj vs 0)
  exact hQ _ _ ρ1 (W1.keeps k) (A1.trans (kp_adv k ρ1)) (.tup (n := 0) (push_new W1 rfl) ((kp_adv k ρ1).lays ls))
theorem e_lst {l : List Expr} {ds : List D} (h : EvL c A kd sc l σ st ds st₁) (hn : l.length ≤ lid) (hl : ds.length = l.length) : EvE c A kd sc (.List l pos) σ st (.lst ds) st₁ := by
  intro env fm ρ s F W V Q hQ
  refine wpAny_List (h pos env fm ρ s F W V _ fun vs s1 ρ1 W1 A1 ls => ⟨by rw [ls.length, hl]; exact lid_size hn, ?_⟩)
  have k := kp_push s1 (lstObj vs 0)
  exact hQ _ _ ρ1 (W1.keeps k) (A1.trans (kp_adv k ρ1)) (.lst (n := 0) (push_new W1 rfl) ((kp_adv k ρ1).lays ls))

theorem truthy_bool' {b : Bool} {s : Shared} {Q : Bool → Shared → Prop} (h : Q b s) : wpAny (model c.prog c.w) A (truthy (.bool b)) Q (fun _ _ => False) s := wpAny_pure h
theorem t_cmp {op : CmpOp} {a b : Expr} {r : Bool} (R : Rm n A) (hn : nset b = true) (ha : EvE c A kd sc a σ st x st₁) (hb : EvE c A kd sc b σ st₁ y st₂) (h : cmpP st₂ op x y = some r) : EvT c A kd sc (.Compare a [op] [b] pos) σ st r st₂ := by
  intro env fm ρ s F W V Q hQ
  refine wpAny_isTrue_Compare1 (ha env fm ρ s F W V _ fun va s1 ρ1 W1 A1 la => hb env fm ρ1 s1 (F.adv W A1) W1 (V.adv F W A1) _ fun vb s2 ρ2 W2 A2 lb =>
    cmpP_ok R W2 (A2.lay la) lb h _ fun v s3 k l => ?_) (nsl_mark hn)
  cases l
  exact truthy_bool' (hQ s3 ρ2 (W2.keeps k) (A1.trans (A2.trans (kp_adv k ρ2))))
theorem t_not {a : Expr} {r : Bool} (ha : EvT c A kd sc a σ st r st₁) : EvT c A kd sc (.UnaryOp .Not a pos) σ st (!r) st₁ := by
  intro env fm ρ s F W V Q hQ
  exact wpAny_isTrue_Not (ha env fm ρ s F W V _ fun s1 ρ1 W1 A1 => hQ s1 ρ1 W1 A1)
theorem t_var {x : Str} {i : Nat} {r : Bool} (hx : okName x = true) (hs : (x, i) ∈ sc) (h : σ.get i = some (.bool r)) : EvT c A kd sc (.Name x pos) σ st r st := by
  intro env fm ρ s F W V Q hQ
  refine wpAny_isTrue_value (e_var hx hs h env fm ρ s F W V _ fun v s1 ρ1 W1 A1 l => ?_)
  cases l
  exact truthy_bool' (hQ s1 ρ1 W1 A1)
theorem t_chain {o₁ o₂ : CmpOp} {a b e : Expr} {z : D} {r q : Bool} (R : Rm n A) (hn : nset e = true) (ha : EvE c A kd sc a σ st x st₁) (hb : EvE c A kd sc b σ st₁ y st₂) (h : cmpP st₂ o₁ x y = some r)
    (hr : match r with | true => EvE c A kd sc e σ st₂ z st₃ ∧ cmpP st₃ o₂ y z = some q | false => q = false ∧ st₃ = st₂) : EvT c A kd sc (.Compare a [o₁, o₂] [b, e] pos) σ st q st₃ := by
  intro env fm ρ s F W V Q hQ
  refine isTrue_chain (rs := []) (ops := []) (ha env fm ρ s F W V _ fun va s1 ρ1 W1 A1 la => test_link (hb env fm ρ1 s1 (F.adv W A1) W1 (V.adv F W A1) _ fun vb s2 ρ2 W2 A2 lb =>
    cmpP_ok R W2 (A2.lay la) lb h _ fun v s3 k l => ?_)) (by simp only [lastMarks]; exact nsl_mark hn)
  cases l
  have A3 := A1.trans (A2.trans (kp_adv k ρ2))
  refine truthy_bool' ?_
  cases r with
  | true =>
    have F3 := F.adv W A3
    refine test_last (hr.1 env fm ρ2 s3 F3 (W2.keeps k) (V.adv F W A3) _ fun ve s4 ρ4 W4 A4 le => cmpP_ok R W4 (A4.lay ((kp_adv k ρ2).lay lb)) le hr.2 _ fun v s5 k5 l => ?_)
    cases l
    exact truthy_bool' (hQ s5 ρ4 (W4.keeps k5) (A3.trans (A4.trans (kp_adv k5 ρ4))))
  | false =>
    obtain ⟨rfl, rfl⟩ := hr
    exact hQ s3 ρ2 (W2.keeps k) A3

theorem e_chain {o₁ o₂ : CmpOp} {a b e : Expr} {z : D} {r q : Bool} (R : Rm n A) (hn : nset e = true) (ha : EvE c A kd sc a σ st x st₁) (hb : EvE c A kd sc b σ st₁ y st₂) (h : cmpP st₂ o₁ x y = some r)
    (hr : match r with | true => EvE c A kd sc e σ st₂ z st₃ ∧ cmpP st₃ o₂ y z = some q | false => q = false ∧ st₃ = st₂) : EvE c A kd sc (.Compare a [o₁, o₂] [b, e] pos) σ st (.bool q) st₃ := by
  intro env fm ρ s F W V Q hQ
  refine Compare_chain (ops := []) (rs := []) (ha env fm ρ s F W V _ fun va s1 ρ1 W1 A1 la => chain_link (hb env fm ρ1 s1 (F.adv W A1) W1 (V.adv F W A1) _ fun vb s2 ρ2 W2 A2 lb =>
    cmpP_ok R W2 (A2.lay la) lb h _ fun v s3 k l => ?_)) (by simp only [lastMarks]; exact nsl_mark hn)
  cases l
  have A3 := A1.trans (A2.trans (kp_adv k ρ2))
  refine truthy_bool' ?_
  cases r with
  | true =>
    have F3 := F.adv W A3
    rw [if_pos rfl]
    refine chain_last (hr.1 env fm ρ2 s3 F3 (W2.keeps k) (V.adv F W A3) _ fun ve s4 ρ4 W4 A4 le => cmpP_ok R W4 (A4.lay ((kp_adv k ρ2).lay lb)) le hr.2 _ fun v s5 k5 l => ?_)
    exact hQ v s5 ρ4 (W4.keeps k5) (A3.trans (A4.trans (kp_adv k5 ρ4))) l
  | false =>
    obtain ⟨rfl, rfl⟩ := hr
    rw [if_neg (by decide)]
    exact hQ _ s3 ρ2 (W2.keeps k) A3 (.bool _)

noncomputable def EvP (c : Cx) (A : Around) (kd : Str → Option NameKind) (sc : List (Str × Nat)) (e : Expr) (σ : Vars) (st : Store) (d : D) (st' : Store) : Prop :=
  ∀ (env : Env) (fm ρ : List Addr) (s : Shared), Fm kd sc env fm s.heap → Wf c fm ρ st s → Vr sc env fm ρ σ s.heap →
    ∀ Q : Value → Shared → Prop, (∀ v s' ρ', 0 < s'.toks → Wf c fm ρ' st' s' → Adv ρ ρ' s s' → Lay (Out (fm ++ ρ') s'.heap) ρ' v d → Q v s') →
      wpAny (model c.prog c.w) A (eval e env) Q (fun _ _ => False) s
theorem EvP.val {e : Expr} (h : EvP c A kd sc e σ st d st₁) : EvE c A kd sc e σ st d st₁ := fun env fm ρ s F W V Q hQ => h env fm ρ s F W V Q fun v s' ρ' _ => hQ v s' ρ'
theorem mark {α : Type} {M : Model} {t : Sem α} {s : Shared} {Q : α → Shared → Prop} (hp : 0 < s.toks) (h : wpAny M A t (fun v s' => 0 < s'.toks → Q v s') (fun _ _ => False) s) : wpAny M A t Q (fun _ _ => False) s :=
  wpAny_with_toks (n := 1) hp (wpAny_mono h (fun _ _ q => q) fun _ _ q => q.elim)
theorem p_lit {k : Const} {j : Nat} {x : Str} (h : k = .str x) : EvP c A kd sc (.Constant k j pos) σ st (.str x) st := by
  intro env fm ρ s F W V Q hQ
  have kt := kp_tok s (s.toks + 1)
  subst h
  exact wpAny_Constant_str (hQ _ _ ρ (Nat.succ_pos _) (W.keeps kt) (kp_adv kt ρ) (.str _ _))
theorem p_idx {a b : Expr} (hn : nsl b = true) (ha : EvP c A kd sc a σ st x st₁) (hb : EvE c A kd sc b σ st₁ y st₂) (h : idxP st₂ x y = some d) : EvP c A kd sc (.Subscript a b pos) σ st d st₂ := by
  intro env fm ρ s F W V Q hQ
  refine Subscript_ (ha env fm ρ s F W V _ fun va s1 ρ1 p1 W1 A1 la => mark p1 (hb env fm ρ1 s1 (F.adv W A1) W1 (V.adv F W A1) _ fun vb s2 ρ2 W2 A2 lb p2 =>
    mark p2 (idxP_ok W2 (A2.lay la) lb h (nsl_sub hn _ _) _ fun v s3 k l p3 => hQ v s3 ρ2 p3 (W2.keeps k) (A1.trans (A2.trans (kp_adv k ρ2))) l)))

noncomputable def EvTs (c : Cx) (A : Around) (kd : Str → Option NameKind) (sc : List (Str × Nat)) (op : BoolOp) (l : List Expr) (σ : Vars) (st : Store) (b : Bool) (st' : Store) : Prop :=
  ∀ (env : Env) (fm ρ : List Addr) (s : Shared), Fm kd sc env fm s.heap → Wf c fm ρ st s → Vr sc env fm ρ σ s.heap →
    ∀ Q : Bool → Shared → Prop, (∀ s' ρ', Wf c fm ρ' st' s' → Adv ρ ρ' s s' → Q b s') →
      wpAny (model c.prog c.w) A (allTrue op l env) Q (fun _ _ => False) s
theorem t_bool {op : BoolOp} {l : List Expr} {r : Bool} (h : EvTs c A kd sc op l σ st r st₁) : EvT c A kd sc (.BoolOp op l pos) σ st r st₁ :=
  fun env fm ρ s F W V Q hQ => wpAny_isTrue_BoolOp (h env fm ρ s F W V Q hQ)
theorem and_nil : EvTs c A kd sc .And [] σ st true st := fun env fm ρ s F W V Q hQ => wpAny_allTrue_And_nil (hQ _ ρ W (Adv.refl _ _))
theorem or_nil : EvTs c A kd sc .Or [] σ st false st := fun env fm ρ s F W V Q hQ => wpAny_allTrue_Or_nil (hQ _ ρ W (Adv.refl _ _))
theorem and_go {e : Expr} {l : List Expr} {r : Bool} (he : EvT c A kd sc e σ st true st₁) (h : EvTs c A kd sc .And l σ st₁ r st₂) : EvTs c A kd sc .And (e :: l) σ st r st₂ := by
  intro env fm ρ s F W V Q hQ
  refine wpAny_allTrue_And_cons (he env fm ρ s F W V _ fun s1 ρ1 W1 A1 => ?_)
  exact h env fm ρ1 s1 (F.adv W A1) W1 (V.adv F W A1) Q fun s2 ρ2 W2 A2 => hQ s2 ρ2 W2 (A1.trans A2)
theorem and_stop {e : Expr} {l : List Expr} (he : EvT c A kd sc e σ st false st₁) : EvTs c A kd sc .And (e :: l) σ st false st₁ := by
  intro env fm ρ s F W V Q hQ
  exact wpAny_allTrue_And_cons (he env fm ρ s F W V _ fun s1 ρ1 W1 A1 => hQ s1 ρ1 W1 A1)
theorem or_go {e : Expr} {l : List Expr} {r : Bool} (he : EvT c A kd sc e σ st false st₁) (h : EvTs c A kd sc .Or l σ st₁ r st₂) : EvTs c A kd sc .Or (e :: l) σ st r st₂ := by
  intro env fm ρ s F W V Q hQ
  refine wpAny_allTrue_Or_cons (he env fm ρ s F W V _ fun s1 ρ1 W1 A1 => ?_)
  exact h env fm ρ1 s1 (F.adv W A1) W1 (V.adv F W A1) Q fun s2 ρ2 W2 A2 => hQ s2 ρ2 W2 (A1.trans A2)
theorem or_stop {e : Expr} {l : List Expr} (he : EvT c A kd sc e σ st true st₁) : EvTs c A kd sc .Or (e :: l) σ st true st₁ := by
  intro env fm ρ s F W V Q hQ
  exact wpAny_allTrue_Or_cons (he env fm ρ s F W V _ fun s1 ρ1 W1 A1 => hQ s1 ρ1 W1 A1)

noncomputable def EvO (c : Cx) (A : Around) (kd : Str → Option NameKind) (sc : List (Str × Nat)) (e : Option Expr) (σ : Vars) (st : Store) (d : Option D) (st' : Store) : Prop :=
  ∀ (env : Env) (fm ρ : List Addr) (s : Shared), Fm kd sc env fm s.heap → Wf c fm ρ st s → Vr sc env fm ρ σ s.heap →
    ∀ Q : Value → Shared → Prop, (∀ v s' ρ', Wf c fm ρ' st' s' → Adv ρ ρ' s s' → LayO (Out (fm ++ ρ') s'.heap) ρ' v d → Q v s') →
      wpAny (model c.prog c.w) A (evalPart e env) Q (fun _ _ => False) s
theorem o_none : EvO c A kd sc none σ st none st := fun env fm ρ s F W V Q hQ => by
  rw [evalPart_none]; exact wpAny_pure (hQ _ _ ρ W (Adv.refl _ _) rfl)
theorem o_some {e : Expr} (h : EvE c A kd sc e σ st d st₁) : EvO c A kd sc (some e) σ st (some d) st₁ := fun env fm ρ s F W V Q hQ => by
  rw [evalPart_some]; exact h env fm ρ s F W V Q hQ
theorem Adv.layO {ρ ρ' fm : List Addr} {s s' : Shared} (x : Adv ρ ρ' s s') {v : Value} {d : Option D} (h : LayO (Out (fm ++ ρ) s.heap) ρ v d) : LayO (Out (fm ++ ρ') s'.heap) ρ' v d := by
  cases d with
  | none => exact h
  | some d => exact x.lay h
theorem e_slc {a : Expr} {lo hi : Option Expr} {p : Pos} {l h : Option D} (ha : EvE c A kd sc a σ st x st₁) (hl : EvO c A kd sc lo σ st₁ l st₂) (hh : EvO c A kd sc hi σ st₂ h st₃) (he : slcP x l h = some d) :
    EvE c A kd sc (.Subscript a (.Slice lo hi none p) pos) σ st d st₃ := by
  intro env fm ρ s F W V Q hQ
  refine Subscript_ (ha env fm ρ s F W V _ fun va s1 ρ1 W1 A1 la => wpAny_Slice (hl env fm ρ1 s1 (F.adv W A1) W1 (V.adv F W A1) _ fun vl s2 ρ2 W2 A2 ll => hh env fm ρ2 s2 (F.adv W (A1.trans A2)) W2 (V.adv F W (A1.trans A2)) _ fun vu s3 ρ3 W3 A3 lu => ?_))
  rw [evalPart_none]
  refine wpAny_pure ?_
  exact slcP_ok (A3.lay (A2.lay la)) (A3.layO ll) lu W3 he Q fun v s4 k l4 => hQ v s4 ρ3 (W3.keeps k) ((A1.trans A2).trans (A3.trans (kp_adv k ρ3))) l4
noncomputable def EvOP (c : Cx) (A : Around) (kd : Str → Option NameKind) (sc : List (Str × Nat)) (e : Option Expr) (σ : Vars) (st : Store) (d : Option D) (st' : Store) : Prop :=
  ∀ (env : Env) (fm ρ : List Addr) (s : Shared), Fm kd sc env fm s.heap → Wf c fm ρ st s → Vr sc env fm ρ σ s.heap →
    ∀ Q : Value → Shared → Prop, (∀ v s' ρ', 0 < s'.toks → Wf c fm ρ' st' s' → Adv ρ ρ' s s' → LayO (Out (fm ++ ρ') s'.heap) ρ' v d → Q v s') →
      wpAny (model c.prog c.w) A (evalPart e env) Q (fun _ _ => False) s
theorem op_some {e : Expr} (h : EvP c A kd sc e σ st d st₁) : EvOP c A kd sc (some e) σ st (some d) st₁ := fun env fm ρ s F W V Q hQ => by
  rw [evalPart_some]; exact h env fm ρ s F W V Q hQ
theorem p_slc {a : Expr} {lo hi : Option Expr} {p : Pos} {l h : Option D} (ha : EvE c A kd sc a σ st x st₁) (hl : EvO c A kd sc lo σ st₁ l st₂) (hh : EvOP c A kd sc hi σ st₂ h st₃) (he : slcP x l h = some d) :
    EvP c A kd sc (.Subscript a (.Slice lo hi none p) pos) σ st d st₃ := by
  intro env fm ρ s F W V Q hQ
  refine Subscript_ (ha env fm ρ s F W V _ fun va s1 ρ1 W1 A1 la => wpAny_Slice (hl env fm ρ1 s1 (F.adv W A1) W1 (V.adv F W A1) _ fun vl s2 ρ2 W2 A2 ll => hh env fm ρ2 s2 (F.adv W (A1.trans A2)) W2 (V.adv F W (A1.trans A2)) _ fun vu s3 ρ3 p3 W3 A3 lu => ?_))
  rw [evalPart_none]
  refine wpAny_pure (mark (show 0 < s3.toks from p3) ?_)
  exact slcP_ok (A3.lay (A2.lay la)) (A3.layO ll) lu W3 he _ fun v s4 k l4 p4 => hQ v s4 ρ3 p4 (W3.keeps k) ((A1.trans A2).trans (A3.trans (kp_adv k ρ3))) l4
end
end Mine.Internal
end
section
open PySem PySem.W PySem.Calls PyProof.Rows
set_option Elab.async false
set_option linter.unusedVariables false
namespace Mine.Internal

structure Ok (c : Cx) : Prop where
  K : c.K.In c.s₀.heap
  blt : ∃ mb, c.s₀.heap.Ns builtinsNs mb ∧ ∀ x : Str, x ≠ "__name__" → mb x = bootBuiltins x
  lim : c.s₀.heap.NoLimit

noncomputable def globIn (K : Frag) (x : Str) : Option Value := match nsIn K mainGlobals x with
  | some (some v) => some v
  | some .none => if x == "__name__" then .none else bootBuiltins x
  | .none => .none

noncomputable def Fn.isType : Fn → Bool
  | .intF => true
  | .range1 => true
  | .range3 => true
  | .strI => true
  | .intS => true
  | _ => false

section
variable {c : Cx} {A : Around} {kd : Str → Option NameKind} {sc : List (Str × Nat)} {σ : Vars} {st st₁ st₂ st₃ : Store} {x y d : D} {n : Nat} {pos : Pos} {env : Env} {fm ρ : List Addr} {s : Shared}

theorem Wf.K (O : Ok c) (W : Wf c fm ρ st s) : c.K.In s.heap := fun a o e => W.base _ _ (O.K a o e)
theorem glob_load {X : Str} {v : Value} {Q : Value → Shared → Prop} (O : Ok c) (F : Fm kd sc env fm s.heap) (W : Wf c fm ρ st s) (h : globIn c.K X = some v) (hQ : Q v s) :
    wpAny (model c.prog c.w) A (loadGlobal env X) Q (fun _ _ => False) s := by
  unfold globIn at h
  unfold loadGlobal
  rw [F.glob, F.blt]
  split at h
  · rename_i v' e
    cases h
    exact wpAny_bind ((looks_nsIn (W.K O) e).here (wpAny_pure hQ))
  · rename_i e
    split at h
    · cases h
    · rename_i hn
      refine wpAny_bind ((looks_nsIn (W.K O) e).here ?_)
      obtain ⟨mb, hb, hv⟩ := O.blt
      refine wpAny_bind (wpAny_nsGet (hb.keeps W.base) ?_)
      rw [hv X (fun e => hn (beq_iff_eq.mpr e)), h]
      exact wpAny_pure hQ
  · cases h
theorem glob_name {X : Str} {v : Value} {Q : Value → Shared → Prop} (O : Ok c) (F : Fm kd sc env fm s.heap) (W : Wf c fm ρ st s) (hk : kd X = some .globalImplicit) (h : globIn c.K X = some v) (hx : okName X = true) (hQ : Q v s) :
    wpAny (model c.prog c.w) A (eval (.Name X pos) env) Q (fun _ _ => False) s :=
  Name_function_global F.kind (by rw [F.kdE]; exact hk) (glob_load O F W h hQ) (by simp only [okName, Bool.and_eq_true, Bool.not_eq_true'] at hx; exact hx.1)
theorem e_glob {X : Str} {v : Value} (O : Ok c) (hk : kd X = some .globalImplicit) (h : globIn c.K X = some v) (hx : okName X = true) (hl : ∀ P ρ, Lay P ρ v d) : EvE c A kd sc (.Name X pos) σ st d st := by
  intro env fm ρ s F W V Q hQ
  exact glob_name O F W hk h hx (hQ _ _ ρ W (Adv.refl _ _) (hl _ _))

theorem plain_args : ∀ {l : List Expr}, l.all nsl = true → (backTo pos (starEach l env)).any (·.1) = false
  | [], _ => rfl
  | e :: r, h => by
    simp only [List.all_cons, Bool.and_eq_true] at h
    rw [nsl_star h.1]
    show (false || (backTo pos (starEach r env)).any (·.1)) = false
    rw [plain_args h.2]; rfl
theorem plain_args' : ∀ {l : List Expr}, l.all nsl = true → (backTo pos (starEach l env)).all (!·.1) = true
  | [], _ => rfl
  | e :: r, h => by
    simp only [List.all_cons, Bool.and_eq_true] at h
    rw [nsl_star h.1]
    show (true && (backTo pos (starEach r env)).all (!·.1)) = true
    rw [plain_args' h.2]; rfl
theorem call_args {M : Model} {E : Value → Shared → Prop} {f : Value} {l : List Expr} {Q : Args → Shared → Prop} (hl : l.all nsl = true)
    (h : wpAny M A (spliced (backTo pos (starEach l env))) (fun vs s' => Q ⟨vs, []⟩ s') E s) : wpAny M A (evalArgs f true (backTo pos (starEach l env)) []) Q E s := by
  cases l with
  | nil =>
    unfold evalArgs
    refine wpAny_bind (wpAny_mono h (fun vs s' h' => ?_) fun _ _ x => x)
    refine wpAny_holding ?_
    exact wpAny_bind (wpAny_pure (wpAny_bind (wpAny_pure (wpAny_pure h'))))
  | cons e r =>
    simp only [List.all_cons, Bool.and_eq_true] at hl
    rw [nsl_star hl.1] at h ⊢
    exact evalArgs_plain h

theorem Fn.val_is (f : Fn) : (∃ i, f.val = .builtin i) ∨ (∃ i, f.val = .type i) := by cases f <;> simp [Fn.val]
theorem callWith_fn {E : Value → Shared → Prop} {f : Fn} {l : List Expr} {Q : Value → Shared → Prop} (hl : l.all nsl = true)
    (h : wpAny (model c.prog c.w) A (spliced (backTo pos (starEach l env))) (fun vs s' => wpAny (model c.prog c.w) A (call f.val vs) Q E s') E s) :
    wpAny (model c.prog c.w) A (callWith pos f.val [] (backTo pos (starEach l env)) []) Q E s := by
  rcases f.val_is with ⟨i, e⟩ | ⟨i, e⟩ <;> rw [e] at h ⊢
  · exact callWith_builtin (plain_args hl) (call_args hl h)
  · exact PySem.callWith_type (plain_args hl) (call_args hl h)
theorem e_fn {f : Fn} {X : Str} {p : Pos} {l : List Expr} {ds : List D} (O : Ok c) (R : Rm n A) (hk : kd X = some .globalImplicit) (h : globIn c.K X = some f.val) (hx : okName X = true) (hl : l.all nsl = true)
    (he : EvL c A kd sc l σ st ds st₁) (hd : fnP st₁ f ds = some d) : EvE c A kd sc (.Call (.Name X p) l [] pos) σ st d st₁ := by
  intro env fm ρ s F W V Q hQ
  refine Call_ (glob_name O F W hk h hx (callWith_fn hl (he pos env fm ρ s F W V _ fun vs s1 ρ1 W1 A1 ls => ?_)))
  exact fnP_ok R W1 ls hd Q fun v s2 k l2 => hQ v s2 ρ1 (W1.keeps k) (A1.trans (kp_adv k ρ1)) l2

noncomputable def ncall (e : Expr) : Bool := !(Nat.beq e.ctorIdx 16)
theorem base_plain {o : Expr} (h : ncall o = true) {name : Str} {whole : Sem Value} : attributeBase o name env whole = whole := by
  cases o <;> first | rfl | exact Bool.noConfusion h
theorem meth_call {E : Value → Shared → Prop} {o : Expr} {name : Str} {apos : Pos} {l : List Expr} {Q : Value → Shared → Prop} (ho : ncall o = true) (hl : l.all nsl = true) (hn : l.length < 30) (hp : apos.endLine = pos.line)
    (h : wpAny (model c.prog c.w) A (eval o env) (fun ov s₁ => wpAny (model c.prog c.w) A (getMethod ov name (do return (← importBound o env).getD true)) (fun r s₂ => wpAny (model c.prog c.w) A (callWith pos r.1 r.2 (backTo pos (starEach l env)) []) Q E s₂) E s₁) E s) :
    wpAny (model c.prog c.w) A (eval (.Call (.Attribute o name apos) l [] pos) env) Q E s := by
  rw [arm_eval_Call, base_plain ho]
  refine wpAny_bind (wpAny_mono h (fun ov s₁ h₁ => wpAny_bind (wpAny_standAt ?_)) fun _ _ x => x)
  unfold methodCall
  have hf : methodCallForm (l.length + ([] : List Keyword).length) (backTo pos (starEach l env)) (backToKw pos (keywordEach [] env)) = true := by
    show ((backTo pos (starEach l env)).all (!·.1) && true && decide (l.length + 0 + 0 < 30)) = true
    rw [plain_args' hl]; simpa using hn
  rw [hf]
  show wpAny _ _ (holding [ov] (getMethod ov name (do return (← importBound o env).getD true)) >>= _) _ _ _
  refine wpAny_bind (wpAny_holding (wpAny_mono h₁ (fun r s₂ h₂ => ?_) fun _ _ x => x))
  obtain ⟨f, first⟩ := r
  have : methodCallPos true o env apos pos = pure pos := by
    unfold methodCallPos; rw [hp]; simp
  show wpAny _ _ (methodCallPos true o env apos pos >>= fun callPos => callWith callPos f first (backTo pos (starEach l env)) []) _ _ _
  rw [this]
  exact wpAny_bind (wpAny_pure h₂)
theorem gm_me {m : Me} {X : Str} {t : Tok} {pl : Sem Bool} {Q : Value × List Value → Shared → Prop} {E : Value → Shared → Prop} {M : Model} (h : Q (.builtin m.val, [.str X t]) s) : wpAny M A (getMethod (.str X t) m.name pl) Q E s := by
  cases m <;> simp only [Me.name, Me.val] at h ⊢
  · with_reducible exact GM.count h
  · with_reducible exact GM.index h
  · with_reducible exact GM.join h
  · with_reducible exact GM.split h
theorem meP_str {m : Me} {ds : List D} (h : meP st m x ds = some d) : ∃ X, x = .str X := by
  obtain ⟨X, h1, _⟩ := bd_ok h
  exact ⟨X, dS_ok h1⟩
theorem e_me {m : Me} {o : Expr} {X : Str} {apos : Pos} {l : List Expr} {ds : List D} (hX : X = m.name) (ho : ncall o = true) (hl : l.all nsl = true) (hn : l.length < 30) (hp : apos.endLine = pos.line)
    (h : EvE c A kd sc o σ st x st₁) (he : EvL c A kd sc l σ st₁ ds st₂) (hd : meP st₂ m x ds = some d) : EvE c A kd sc (.Call (.Attribute o X apos) l [] pos) σ st d st₂ := by
  subst hX
  intro env fm ρ s F W V Q hQ
  refine meth_call ho hl hn hp (h env fm ρ s F W V _ fun ov s1 ρ1 W1 A1 lo => ?_)
  obtain ⟨X, rfl⟩ := meP_str hd
  cases lo
  with_reducible refine gm_me ?_
  refine callWith_builtin (plain_args hl) (call_args hl (he pos env fm ρ1 s1 (F.adv W A1) W1 (V.adv F W A1) _ fun vs s2 ρ2 W2 A2 ls => ?_))
  exact meP_ok W2 ls hd Q fun v s3 k l3 => hQ v s3 ρ2 (W2.keeps k) (A1.trans (A2.trans (kp_adv k ρ2))) l3

noncomputable def EvLP (c : Cx) (A : Around) (kd : Str → Option NameKind) (sc : List (Str × Nat)) (l : List Expr) (σ : Vars) (st : Store) (ds : List D) (st' : Store) : Prop :=
  ∀ (pos : Pos) (env : Env) (fm ρ : List Addr) (s : Shared), Fm kd sc env fm s.heap → Wf c fm ρ st s → Vr sc env fm ρ σ s.heap →
    ∀ Q : List Value → Shared → Prop, (∀ v s' ρ', 0 < s'.toks → Wf c fm ρ' st' s' → Adv ρ ρ' s s' → Lays (Out (fm ++ ρ') s'.heap) ρ' v ds → Q v s') →
      wpAny (model c.prog c.w) A (spliced (backTo pos (starEach l env))) Q (fun _ _ => False) s
theorem lp_cons {e : Expr} {r : List Expr} {ds : List D} (hn : nsl e = true) (he : EvP c A kd sc e σ st d st₁) (hr : EvL c A kd sc r σ st₁ ds st₂) : EvLP c A kd sc (e :: r) σ st (d :: ds) st₂ := by
  intro pos env fm ρ s F W V Q hQ
  refine wpAny_items_cons (he env fm ρ s F W V _ fun v s1 ρ1 p1 W1 A1 l => mark p1 (hr pos env fm ρ1 s1 (F.adv W A1) W1 (V.adv F W A1) _ fun vs s2 ρ2 W2 A2 ls p2 => hQ _ _ ρ2 p2 W2 (A1.trans A2) (.cons (A2.lay l) ls))) (nsl_star hn _ _)
theorem p_me {m : Me} {o : Expr} {X : Str} {apos : Pos} {l : List Expr} {ds : List D} (hX : X = m.name) (ho : ncall o = true) (hl : l.all nsl = true) (hn : l.length < 30) (hp : apos.endLine = pos.line)
    (h : EvE c A kd sc o σ st x st₁) (he : EvLP c A kd sc l σ st₁ ds st₂) (hd : meP st₂ m x ds = some d) : EvP c A kd sc (.Call (.Attribute o X apos) l [] pos) σ st d st₂ := by
  subst hX
  intro env fm ρ s F W V Q hQ
  refine meth_call ho hl hn hp (h env fm ρ s F W V _ fun ov s1 ρ1 W1 A1 lo => ?_)
  obtain ⟨X, rfl⟩ := meP_str hd
  cases lo
  with_reducible refine gm_me ?_
  refine callWith_builtin (plain_args hl) (call_args hl (he pos env fm ρ1 s1 (F.adv W A1) W1 (V.adv F W A1) _ fun vs s2 ρ2 p2 W2 A2 ls => ?_))
  exact mark p2 (meP_ok W2 ls hd _ fun v s3 k l3 p3 => hQ v s3 ρ2 p3 (W2.keeps k) (A1.trans (A2.trans (kp_adv k ρ2))) l3)
noncomputable def nsup : Expr → Bool
  | .Call (.Name id _) _ _ _ => id != "super"
  | _ => true
theorem base_plain2 {o : Expr} (h : nsup o = true) {name : Str} {whole : Sem Value} : attributeBase o name env whole = whole := by
  cases o with
  | Call f a b p => cases f with
    | Name id q => cases a with
      | nil => cases b with
        | nil =>
          show (if (((id != "super" || _) || _) || _) = true then whole else _) = whole
          exact if_pos (by rw [show (id != "super") = true from h]; rfl)
        | _ => rfl
      | _ => rfl
    | _ => rfl
  | _ => rfl
theorem meth_call2 {E : Value → Shared → Prop} {o : Expr} {name : Str} {apos : Pos} {l : List Expr} {Q : Value → Shared → Prop} (ho : nsup o = true) (hl : l.all nsl = true) (hn : l.length < 30) (hp : apos.endLine = pos.line)
    (h : wpAny (model c.prog c.w) A (eval o env) (fun ov s₁ => wpAny (model c.prog c.w) A (getMethod ov name (do return (← importBound o env).getD true)) (fun r s₂ => wpAny (model c.prog c.w) A (callWith pos r.1 r.2 (backTo pos (starEach l env)) []) Q E s₂) E s₁) E s) :
    wpAny (model c.prog c.w) A (eval (.Call (.Attribute o name apos) l [] pos) env) Q E s := by
  rw [arm_eval_Call, base_plain2 ho]
  refine wpAny_bind (wpAny_mono h (fun ov s₁ h₁ => wpAny_bind (wpAny_standAt ?_)) fun _ _ x => x)
  unfold methodCall
  have hf : methodCallForm (l.length + ([] : List Keyword).length) (backTo pos (starEach l env)) (backToKw pos (keywordEach [] env)) = true := by
    show ((backTo pos (starEach l env)).all (!·.1) && true && decide (l.length + 0 + 0 < 30)) = true
    rw [plain_args' hl]; simpa using hn
  rw [hf]
  show wpAny _ _ (holding [ov] (getMethod ov name (do return (← importBound o env).getD true)) >>= _) _ _ _
  refine wpAny_bind (wpAny_holding (wpAny_mono h₁ (fun r s₂ h₂ => ?_) fun _ _ x => x))
  obtain ⟨f, first⟩ := r
  have : methodCallPos true o env apos pos = pure pos := by
    unfold methodCallPos; rw [hp]; simp
  show wpAny _ _ (methodCallPos true o env apos pos >>= fun callPos => callWith callPos f first (backTo pos (starEach l env)) []) _ _ _
  rw [this]
  exact wpAny_bind (wpAny_pure h₂)
theorem repl_at {P : Addr → Obj → Prop} {a b : Str} {v : Value} (hd : replP x a b = some d) (lo : Lay P ρ v x) : ∃ X t, v = .str X t ∧ d = .str (Txt.replace X a b) ∧ b.length ≤ 1 ∧ X.length ≤ lid ∧ (a == b) = false := by
  refine nng fun nG => ?_
  obtain ⟨X, h1, hd⟩ := bd_ok hd
  rw [dS_ok h1] at lo
  obtain ⟨t, rfl⟩ := lo.strI
  obtain ⟨hh, hd⟩ := if_ok hd
  cases hd
  obtain ⟨h1, h2, h3⟩ := an3 hh
  refine nG ?_
  clear nG
  refine ⟨X, t, rfl, rfl, Nat.le_of_ble_eq_true h2, Nat.le_of_ble_eq_true h1, ?_⟩
  revert h3
  cases a == b
  · exact fun _ => rfl
  · exact fun h => Bool.noConfusion h
theorem e_repl {o : Expr} {a b : Str} {k1 k2 : Nat} {p1 p2 : Pos} {apos : Pos} (ho : nsup o = true) (hp : apos.endLine = pos.line) (h : EvP c A kd sc o σ st x st₁) (hd : replP x a b = some d) :
    EvE c A kd sc (.Call (.Attribute o "replace" apos) [.Constant (.str a) k1 p1, .Constant (.str b) k2 p2] [] pos) σ st d st₁ := by
  intro env fm ρ s F W V Q hQ
  have hl : [Expr.Constant (.str a) k1 p1, Expr.Constant (.str b) k2 p2].all nsl = true := rfl
  refine meth_call2 ho hl (by simp) hp (h env fm ρ s F W V _ fun ov s1 ρ1 q1 W1 A1 lo => ?_)
  refine nng fun nG => ?_
  obtain ⟨X, t, rfl, rfl, hb, hX, hab⟩ := repl_at hd lo
  refine nG ?_
  clear nG
  with_reducible refine GM.replace ?_
  refine callWith_builtin (plain_args hl) (call_args hl (wpAny_items_cons (wpAny_Constant_str (wpAny_items_cons (wpAny_Constant_str (wpAny_items_nil ?_)) (nsl_star rfl _ _))) (nsl_star rfl _ _)))
  have e : lid = 1048576 := rfl
  have hm : (X.length + 1) * b.length ≤ (X.length + 1) * 1 := Nat.mul_le_mul_left _ hb
  refine SC.replace (by show s1.toks ≠ 0; lia) (by show s1.toks + 1 ≠ 0; lia) (by show s1.toks ≠ s1.toks + 1; lia) hab (by lia) fun t' k => ?_
  have K : Keeps s1 { s1 with toks := k } := kp_tok s1 k
  exact hQ _ _ ρ1 (W1.keeps K) (A1.trans (kp_adv K ρ1)) (.str _ _)
theorem e_lindex {o e : Expr} {apos : Pos} (ho : ncall o = true) (hn : nsl e = true) (hp : apos.endLine = pos.line) (h : EvE c A kd sc o σ st x st₁) (he : EvE c A kd sc e σ st₁ y st₂) (hd : lindexP x y = some d) :
    EvE c A kd sc (.Call (.Attribute o "index" apos) [e] [] pos) σ st d st₂ := by
  intro env fm ρ s F W V Q hQ
  refine meth_call ho (l := [e]) (by simp [hn]) (by simp) hp (h env fm ρ s F W V _ fun ov s1 ρ1 W1 A1 lo => ?_)
  refine nng fun nG => ?_
  obtain ⟨l, bb, d1, d2, hd⟩ := two_ok hd
  obtain ⟨rfl, hd⟩ := if_ok hd
  obtain ⟨bs, e1, hd⟩ := bd_ok hd
  obtain ⟨hh, hd⟩ := if_ok hd
  cases hd
  rw [dL_ok d1] at lo
  obtain ⟨a, vs, nn, rfl, p, r⟩ := lo.lstI
  refine nG ?_
  clear nG
  have e2 := lays_bools r e1
  subst e2
  have A1' := A1
  refine getMethod_list_of PySem.F.slot_list_index PySem.F.type_list_index (lst_isList p.1) ⟨_, p.1, rfl⟩ ?_
  refine callWith_builtin (plain_args (l := [e]) (by simp [hn])) (call_args (l := [e]) (by simp [hn]) (wpAny_items_cons (he env fm ρ1 s1 (F.adv W A1) W1 (V.adv F W A1) _ fun ve s2 ρ2 W2 A2 le => wpAny_items_nil ?_) (nsl_star hn _ _)))
  rw [dB_ok d2] at le
  rw [le.boolI]
  have p2 := (A2.out (fm := fm) p).1
  have hm : true ∈ bs := by simpa using (an2 hh).1
  have hlt : bs.idxOf true < bs.length := List.idxOf_lt_length_of_mem hm
  have hsz : bs.length ≤ lid := Nat.le_of_ble_eq_true (an2 hh).2
  have el : lid = 1048576 := rfl
  have hj : bs.idxOf true < (bs.map Value.bool).toArray.size := by simpa using hlt
  refine call_meets PySem.F.slot_list_index ⟨_, p2, rfl⟩ PySem.F.entry_list_index (PySem.F.args_list_index_2 _ _) (SeqAt.list_indexAt a (bs.map Value.bool).toArray nn none #[] (.bool true) (isB true) (bs.idxOf true) hj (by lia) ?_ ?_) ⟨p2, fun y hy => ?_, ?_⟩
  · simp only [List.getElem_toArray, List.getElem_map, isB]
    have := List.getElem_idxOf hlt
    simpa using this
  · intro m hm' hlt'
    simp only [List.getElem_toArray, List.getElem_map, isB]
    have := List.not_of_lt_findIdx (p := (· == true)) (xs := bs) (i := m) hlt'
    simpa using this
  · obtain ⟨i, _, rfl⟩ := List.mem_map.mp (show y ∈ bs.map Value.bool by simpa using hy)
    exact SeqAt.EqAt.bool_bool i true
  · have K := kp_tok s2 (s2.toks + 1)
    exact hQ _ _ ρ2 (W2.keeps K) (A1.trans (A2.trans (kp_adv K ρ2))) (.int _ _)

noncomputable def CallE (c : Cx) (A : Around) (v : Value) (ds : List D) (st : Store) (d : D) (st' : Store) : Prop :=
  ∀ (fm ρ : List Addr) (s : Shared) (vs : List Value), Wf c fm ρ st s → Lays (Out (fm ++ ρ) s.heap) ρ vs ds →
    ∀ Q : Value → Shared → Prop, (∀ v' s' ρ', Wf c fm ρ' st' s' → Adv ρ ρ' s s' → Lay (Out (fm ++ ρ') s'.heap) ρ' v' d → Q v' s') →
      wpAny (model c.prog c.w) A (call v vs) Q (fun _ _ => False) s
noncomputable def isFn (K : Frag) (a : Addr) : Bool := match K.lookup a with
  | some ⟨_, _, .func _, _⟩ => true
  | _ => false
theorem isFn_get' (O : Ok c) {a : Addr} (h : isFn c.K a = true) : ∃ o fd, (∀ {fm ρ : List Addr} {st : Store} {s : Shared}, Wf c fm ρ st s → s.heap.get? a = some o) ∧ o.data = .func fd := by
  unfold isFn at h
  split at h
  · rename_i e; exact ⟨_, _, fun W => W.K O _ _ e, rfl⟩
  · cases h
theorem e_call {a : Addr} {X : Str} {p : Pos} {l : List Expr} {ds : List D} (O : Ok c) (hk : kd X = some .globalImplicit) (h : globIn c.K X = some (.ref a)) (hf : isFn c.K a = true) (hx : okName X = true) (hl : l.all nsl = true)
    (he : EvL c A kd sc l σ st ds st₁) (hc : CallE c A (.ref a) ds st₁ d st₂) : EvE c A kd sc (.Call (.Name X p) l [] pos) σ st d st₂ := by
  intro env fm ρ s F W V Q hQ
  refine nng fun nG => ?_
  obtain ⟨o, fd, ho, hd⟩ := isFn_get' O hf
  refine nG ?_
  clear nG
  refine Call_ (glob_name O F W hk h hx (callWith_function (o := o) (fd := fd) (call_args hl (he pos env fm ρ s F W V _ fun vs s1 ρ1 W1 A1 ls => ⟨⟨ho W1, hd⟩, ?_⟩))))
  exact hc fm ρ1 s1 vs W1 ls Q fun v s2 ρ2 W2 A2 l2 => hQ v s2 ρ2 W2 (A1.trans A2) l2
end
end Mine.Internal
end
section
open PySem PySem.W PySem.Calls PyProof.Rows
set_option Elab.async false
set_option linter.unusedVariables false
namespace Mine.Internal

theorem beq_ne {a b : Nat} (h : a ≠ b) : Nat.beq a b = false := by
  cases e : Nat.beq a b with
  | false => rfl
  | true => exact absurd (Nat.eq_of_beq_eq_true e) h
theorem beq_me (a : Nat) : Nat.beq a a = true := by simp
theorem Vars.get_set : ∀ (σ : Vars) (i j : Nat) (d : D), (σ.set i d).get j = if i = j then some d else σ.get j
  | [], i, j, d => by
    simp only [Vars.set, Vars.get]
    by_cases h : i = j
    · subst h; rw [beq_me]; simp
    · rw [beq_ne h]; simp [h]
  | (k, e) :: r, i, j, d => by
    simp only [Vars.set]
    by_cases h : k = i
    · subst h
      rw [beq_me]
      simp only [Vars.get]
      by_cases h2 : k = j
      · subst h2; rw [beq_me]; simp
      · rw [beq_ne h2]; simp [h2]
    · rw [beq_ne h]
      simp only [Vars.get]
      by_cases h2 : k = j
      · subst h2; rw [beq_me]; simp [Ne.symm h]
      · rw [beq_ne h2]; exact Vars.get_set r i j d
theorem ns_eq {h : Heap} {a : Addr} {m m' : Str → Option Value} (x : h.Ns a m) (y : h.Ns a m') (n : Str) : m n = m' n := by
  refine nng fun nG => ?_
  obtain ⟨o, es, ep, e, hd, _, hm⟩ := x
  obtain ⟨o', es', ep', e', hd', _, hm'⟩ := y
  refine nG ?_
  clear nG
  rw [e] at e'; cases e'
  rw [hd] at hd'; cases hd'
  rw [← hm, ← hm']

structure Go (ms ms' : List Addr) (h h' : Heap) : Prop where
  keep : ∀ b o, b ∉ ms → h.get? b = some o → h'.get? b = some o
  news : ∀ a ∈ ms', a ∉ ms → h.get? a = none
theorem Go.out {ms ms' : List Addr} {h h' : Heap} (g : Go ms ms' h h') {a : Addr} {o : Obj} (x : Out ms h a o) : Out ms' h' a o :=
  ⟨g.keep a o x.2 x.1, fun hm => by have := x.1; rw [g.news a hm x.2] at this; cases this⟩
theorem Go.lay {ms ms' ρ ρ' : List Addr} {h h' : Heap} (g : Go ms ms' h h') (p : ∀ (i : Nat) (a : Addr), ρ[i]? = some a → ρ'[i]? = some a) {v : Value} {d : D} (x : Lay (Out ms h) ρ v d) : Lay (Out ms' h') ρ' v d :=
  x.mono (fun _ _ q => g.out q) p
theorem Go.lays {ms ms' ρ ρ' : List Addr} {h h' : Heap} (g : Go ms ms' h h') (p : ∀ (i : Nat) (a : Addr), ρ[i]? = some a → ρ'[i]? = some a) {v : List Value} {d : List D} (x : Lays (Out ms h) ρ v d) : Lays (Out ms' h') ρ' v d :=
  x.mono (fun _ _ q => g.out q) p
theorem Adv.go {ρ ρ' : List Addr} {s s' : Shared} (x : Adv ρ ρ' s s') (fm : List Addr) : Go (fm ++ ρ) (fm ++ ρ') s.heap s'.heap :=
  ⟨fun b o hb e => x.keep b o (fun h => hb (List.mem_append_right _ h)) e, fun a ha hn => by
    rcases List.mem_append.mp ha with h | h
    · exact absurd (List.mem_append_left _ h) hn
    · exact x.news a h fun q => hn (List.mem_append_right _ q)⟩
theorem pre_app {ρ ρ' : List Addr} (own : List Addr) (p : ∀ (i : Nat) (a : Addr), ρ[i]? = some a → ρ'[i]? = some a) (i : Nat) (a : Addr) (h : (own ++ ρ)[i]? = some a) : (own ++ ρ')[i]? = some a := by
  rw [List.getElem?_append] at h ⊢
  split at h
  · rename_i q; rw [if_pos q]; exact h
  · rename_i q; rw [if_neg q]; exact p _ _ h
theorem Adv.up {ρ ρ' : List Addr} {s s' : Shared} (x : Adv ρ ρ' s s') (own : List Addr) : Adv (own ++ ρ) (own ++ ρ') s s' :=
  ⟨(x.go own).keep, (x.go own).news, pre_app own x.pre⟩
theorem Adv.down {own ρ ρ' : List Addr} {s s' : Shared} (x : Adv (own ++ ρ) (own ++ ρ') s s') (i : Nat) (a : Addr) (h : ρ[i]? = some a) : ρ'[i]? = some a := by
  have := x.pre (own.length + i) a (by rw [List.getElem?_append_right (by lia)]; simpa using h)
  rw [List.getElem?_append_right (by lia)] at this
  simpa using this
theorem Adv.wide {own fm ρ ρ' : List Addr} {s s' : Shared} (x : Adv (own ++ ρ) (own ++ ρ') s s') (hs : ∀ a ∈ own, a ∈ fm) : Go (fm ++ ρ) (fm ++ ρ') s.heap s'.heap :=
  ⟨fun b o hb e => x.keep b o (fun h => hb (by
      rcases List.mem_append.mp h with h | h
      · exact List.mem_append_left _ (hs _ h)
      · exact List.mem_append_right _ h)) e, fun a ha hn => by
    rcases List.mem_append.mp ha with h | h
    · exact absurd (List.mem_append_left _ h) hn
    · exact x.news a (List.mem_append_right _ h) fun q => hn (by
        rcases List.mem_append.mp q with q | q
        · exact List.mem_append_left _ (hs _ q)
        · exact List.mem_append_right _ q)⟩

section
variable {c : Cx} {A : Around} {kd : Str → Option NameKind} {sc : List (Str × Nat)} {σ σ' σ₁ σ₂ : Vars} {st st₁ st₂ st₃ st' : Store} {x y d : D} {n : Nat} {pos : Pos} {env : Env} {fm fm' own ρ ρ' : List Addr} {s s' : Shared}

theorem Wf.goG (W : Wf c fm ρ st s) (hs : ∃ h tk g, s' = { s with heap := h, toks := tk, gens := g } ∧ (AllBare s.gens → AllBare g)) (g : Go (fm ++ ρ) (fm' ++ ρ) s.heap s'.heap) (kr : ∀ a ∈ ρ, ∀ o, s.heap.get? a = some o → s'.heap.get? a = some o)
    (al : ∀ a ∈ fm', ∃ o, s'.heap.get? a = some o) (ap : ∀ a ∈ ρ, a ∉ fm') : Wf c fm' ρ st s' := by
  have nb : ∀ b o, c.s₀.heap.get? b = some o → b ∉ fm ++ ρ := fun b o e hm => by
    rw [W.new b (List.mem_append.mp hm)] at e; cases e
  refine ⟨?_, fun b o e => g.keep b o (nb b o e) (W.base b o e), fun a ha => ?_, fun a ha => ?_, W.len, fun i a mo e1 e2 => ?_, W.nodup, ap⟩
  · refine nng fun nG => ?_
    obtain ⟨h, t, g1, e, hg⟩ := W.same
    obtain ⟨h', t', g', rfl, hg'⟩ := hs
    refine nG ?_
    clear nG
    have e2 : s.gens = g1 := by rw [e]
    exact ⟨h', t', g', by rw [e], hg' (e2 ▸ hg)⟩
  · rcases ha with ha | ha
    · exact al a ha
    · obtain ⟨o, e⟩ := W.alive a (.inr ha)
      exact ⟨o, kr a ha o e⟩
  · rcases ha with ha | ha
    · by_cases h : a ∈ fm
      · exact W.new a (.inl h)
      · have := g.news a (List.mem_append_left _ ha) (fun q => by
          rcases List.mem_append.mp q with q | q
          · exact h q
          · exact ap a q ha)
        cases e : c.s₀.heap.get? a with
        | none => rfl
        | some o => rw [W.base a o e] at this; cases this
    · exact W.new a (.inr ha)
  · exact (W.store i a mo e1 e2).mono (fun b o q => g.out q) (fun _ _ e => e) fun o e => kr a (List.mem_of_getElem? e1) o e
theorem Wf.go (W : Wf c fm ρ st s) (hs : ∃ h tk, s' = { s with heap := h, toks := tk }) (g : Go (fm ++ ρ) (fm' ++ ρ) s.heap s'.heap) (kr : ∀ a ∈ ρ, ∀ o, s.heap.get? a = some o → s'.heap.get? a = some o)
    (al : ∀ a ∈ fm', ∃ o, s'.heap.get? a = some o) (ap : ∀ a ∈ ρ, a ∉ fm') : Wf c fm' ρ st s' := by
  obtain ⟨h, t, e⟩ := hs
  exact W.goG ⟨h, t, s.gens, e, id⟩ g kr al ap
theorem Wf.apartR (W : Wf c fm ρ st s) {a : Addr} (h : a ∈ ρ) : a ∉ fm := W.apart a h

structure Own (env : Env) (fm own : List Addr) : Prop where
  loc : env.locals ∈ own
  cell : ∀ x cc, env.cells.lookup x = some cc → cc ∈ own
  sub : ∀ a ∈ own, a ∈ fm

structure OwnS (S : Str → Prop) (env : Env) (fm own : List Addr) : Prop where
  loc : env.locals ∈ own
  cell : ∀ x cc, S x → env.cells.lookup x = some cc → cc ∈ own
  sub : ∀ a ∈ own, a ∈ fm
theorem Own.all {env : Env} {fm own : List Addr} (O : Own env fm own) : OwnS (fun _ => True) env fm own := ⟨O.loc, fun x cc _ e => O.cell x cc e, O.sub⟩

noncomputable def FlAt (P : Addr → Obj → Prop) (ρ : List Addr) (f : Flow) : Fl → Prop
  | .next => f = .next
  | .brk => f = .brk
  | .ret d => ∃ v, f = .ret v ∧ Lay P ρ v d

noncomputable def ExAny (c : Cx) (A : Around) (kd : Str → Option NameKind) (sc : List (Str × Nat)) (t : Env → Sem Flow) (σ : Vars) (st : Store) (fl : Fl) (σ' : Vars) (st' : Store) : Prop :=
  ∀ (env : Env) (fm own ρ : List Addr) (s : Shared), Fm kd sc env fm s.heap → Own env fm own → Wf c fm ρ st s → Vr sc env fm ρ σ s.heap →
    ∀ Q : Flow → Shared → Prop, (∀ f s' ρ', Wf c fm ρ' st' s' → Adv (own ++ ρ) (own ++ ρ') s s' → Fm kd sc env fm s'.heap → Vr sc env fm ρ' σ' s'.heap → FlAt (Out (fm ++ ρ') s'.heap) ρ' f fl → Q f s') →
      wpAny (model c.prog c.w) A (t env) Q (fun _ _ => False) s
noncomputable abbrev ExS (c : Cx) (A : Around) (kd : Str → Option NameKind) (sc : List (Str × Nat)) (t : Stmt) := ExAny c A kd sc (exec t)
noncomputable abbrev ExL (c : Cx) (A : Around) (kd : Str → Option NameKind) (sc : List (Str × Nat)) (t : List Stmt) := ExAny c A kd sc (execs t)

theorem x_nil : ExL c A kd sc [] σ st .next σ st := fun env fm own ρ s F O W V Q hQ => wpAny_execs_nil (hQ _ _ ρ W (Adv.refl _ _) F V rfl)
theorem x_next {t : Stmt} {r : List Stmt} {fl : Fl} (h : ExS c A kd sc t σ st .next σ₁ st₁) (hr : ExL c A kd sc r σ₁ st₁ fl σ₂ st₂) : ExL c A kd sc (t :: r) σ st fl σ₂ st₂ := by
  intro env fm own ρ s F O W V Q hQ
  refine wpAny_execs_cons (h env fm own ρ s F O W V _ fun f s1 ρ1 W1 A1 F1 V1 hf => ?_)
  cases hf
  exact hr env fm own ρ1 s1 F1 O W1 V1 Q fun f s2 ρ2 W2 A2 F2 V2 hf => hQ f s2 ρ2 W2 (A1.trans A2) F2 V2 hf
theorem x_ret {t : Stmt} {r : List Stmt} (h : ExS c A kd sc t σ st (.ret d) σ₁ st₁) : ExL c A kd sc (t :: r) σ st (.ret d) σ₁ st₁ := by
  intro env fm own ρ s F O W V Q hQ
  refine wpAny_execs_cons (h env fm own ρ s F O W V _ fun f s1 ρ1 W1 A1 F1 V1 hf => ?_)
  obtain ⟨v, rfl, l⟩ := hf
  exact hQ _ s1 ρ1 W1 A1 F1 V1 ⟨v, rfl, l⟩

theorem x_stop {t : Stmt} {r : List Stmt} (h : ExS c A kd sc t σ st .brk σ₁ st₁) : ExL c A kd sc (t :: r) σ st .brk σ₁ st₁ := by
  intro env fm own ρ s F O W V Q hQ
  refine wpAny_execs_cons (h env fm own ρ s F O W V _ fun f s1 ρ1 W1 A1 F1 V1 hf => ?_)
  cases hf
  exact hQ _ s1 ρ1 W1 A1 F1 V1 rfl
theorem x_break : ExS c A kd sc (.Break pos) σ st .brk σ st := fun env fm own ρ s F O W V Q hQ => wpAny_Break (hQ _ s ρ W (Adv.refl _ _) F V rfl)
theorem x_return {e : Expr} (h : EvE c A kd sc e σ st d st₁) : ExS c A kd sc (.Return (some e) pos) σ st (.ret d) σ st₁ := by
  intro env fm own ρ s F O W V Q hQ
  exact wpAny_Return_some (h env fm ρ s F W V _ fun v s1 ρ1 W1 A1 l => hQ _ s1 ρ1 W1 (A1.up own) (F.adv W A1) (V.adv F W A1) ⟨v, rfl, l⟩)
theorem x_if {t : Expr} {a b : List Stmt} {r : Bool} {fl : Fl} (ht : EvT c A kd sc t σ st r st₁) (ha : ExL c A kd sc (if r = true then a else b) σ st₁ fl σ₂ st₂) : ExS c A kd sc (.If t a b pos) σ st fl σ₂ st₂ := by
  intro env fm own ρ s F O W V Q hQ
  refine wpAny_If (ht env fm ρ s F W V _ fun s1 ρ1 W1 A1 => ?_)
  have := ha env fm own ρ1 s1 (F.adv W A1) O W1 (V.adv F W A1) Q fun f s2 ρ2 W2 A2 F2 V2 hf => hQ f s2 ρ2 W2 ((A1.up own).trans A2) F2 V2 hf
  cases r <;> exact this
theorem x_expr {e : Expr} (h : EvE c A kd sc e σ st d st₁) (hd : match d with | .tup _ => False | .lst _ => False | .rng .. => False | .ref _ => False | _ => True) (hs : ∀ env, swapsWith e none pos.line env = pure false) : ExS c A kd sc (.Expr e pos) σ st .next σ st₁ := by
  intro env fm own ρ s F O W V Q hQ
  refine wpAny_Expr (h env fm ρ s F W V _ fun v s1 ρ1 W1 A1 l => ?_) (by simp [interactive, F.kind]) (hs env)
  have := hQ .next s1 ρ1 W1 (A1.up own) (F.adv W A1) (V.adv F W A1) rfl
  cases l <;> first | exact this | exact hd.elim

theorem Wf.chg (W : Wf c fm ρ st s) {a : Addr} (ha : a ∈ fm) (hs : ∃ h tk, s' = { s with heap := h, toks := tk }) (k : ∀ b o, b ≠ a → s.heap.get? b = some o → s'.heap.get? b = some o) (al : ∃ o, s'.heap.get? a = some o) :
    Wf c fm ρ st s' ∧ Go (fm ++ ρ) (fm ++ ρ) s.heap s'.heap := by
  have g : Go (fm ++ ρ) (fm ++ ρ) s.heap s'.heap := ⟨fun b o hb e => k b o (fun h => hb (h ▸ List.mem_append_left _ ha)) e, fun _ h n => absurd h n⟩
  refine ⟨W.go hs g (fun b hb o e => k b o (fun h => W.apart b hb (h ▸ ha)) e) (fun b hb => ?_) W.apart, g⟩
  by_cases h : b = a
  · exact h ▸ al
  · obtain ⟨o, e⟩ := W.alive b (.inl hb)
    exact ⟨o, k b o h e⟩
theorem adv_chg {a : Addr} (ha : a ∈ own) (k : ∀ b o, b ≠ a → s.heap.get? b = some o → s'.heap.get? b = some o) : Adv (own ++ ρ) (own ++ ρ) s s' :=
  ⟨fun b o hb e => k b o (fun h => hb (h ▸ List.mem_append_left _ ha)) e, fun _ h n => absurd h n, fun _ _ e => e⟩

theorem store_okS {S : Str → Prop} {X : Str} {i : Nat} {v : Value} {Q : Unit → Shared → Prop} (F : Fm kd sc env fm s.heap) (O : OwnS S env fm own) (hS : S X) (W : Wf c fm ρ st s) (V : Vr sc env fm ρ σ s.heap) (hs : (X, i) ∈ sc) (hk : kd X = some .local ∨ kd X = some .cell)
    (hl : Lay (Out (fm ++ ρ) s.heap) ρ v d)
    (hQ : ∀ s', Wf c fm ρ st s' → Adv (own ++ ρ) (own ++ ρ) s s' → Fm kd sc env fm s'.heap → Vr sc env fm ρ (σ.set i d) s'.heap → Q () s') :
    wpAny (model c.prog c.w) A (storeName env X v) Q (fun _ _ => False) s := by
  have one : ∀ p ∈ sc, ∀ e, (σ.set i d).get p.2 = some e → (p.1 = X ∧ e = d) ∨ (p.1 ≠ X ∧ σ.get p.2 = some e) ∨ (p.1 = X ∧ p.2 ≠ i) := fun p hp e he => by
    rw [Vars.get_set] at he
    by_cases h : i = p.2
    · rw [if_pos h] at he
      exact .inl ⟨F.one p hp (X, i) hs h.symm, (Option.some.inj he).symm⟩
    · rw [if_neg h] at he
      by_cases h2 : p.1 = X
      · exact .inr (.inr ⟨h2, Ne.symm h⟩)
      · exact .inr (.inl ⟨h2, he⟩)
  rcases hk with hk | hk
  · obtain ⟨m, hm⟩ := F.ns
    refine wpAny_storeName_local (by rw [F.kdE]; exact hk) hm (fun h' hn' hs' => ?_) (by rw [F.kind]; rfl)
    have k : ∀ b o, b ≠ env.locals → s.heap.get? b = some o → h'.get? b = some o := hs'.extBut
    obtain ⟨W', g⟩ := W.chg (s' := { s with heap := h', toks := s.toks + 1 }) F.loc ⟨_, _, rfl⟩ k (let ⟨o, _, _, q, _⟩ := hn'; ⟨o, q⟩)
    have F' : Fm kd sc env fm h' := { F with ns := ⟨_, hn'⟩, cell := fun y cc e => let ⟨h1, ⟨u, h2⟩, h3⟩ := F.cell y cc e; ⟨h1, ⟨u, cellAt h2 fun o q => k _ o h3 q⟩, h3⟩ }
    refine hQ _ W' (adv_chg O.loc k) F' fun p hp e he => ?_
    rcases one p hp e he with ⟨q, rfl⟩ | ⟨q, he⟩ | ⟨q, r⟩
    · exact ⟨v, .inl ⟨by rw [F.kdE, q]; exact hk, _, hn', by simp [q]⟩, g.lay (fun _ _ e => e) hl⟩
    · obtain ⟨u, hu, l⟩ := V p hp e he
      refine ⟨u, ?_, g.lay (fun _ _ e => e) l⟩
      rcases hu with ⟨k1, m1, hn1, hm1⟩ | ⟨k1, cc, hc, hv⟩
      · have hmm : m p.1 = some u := (ns_eq hm hn1 _).trans hm1
        exact .inl ⟨k1, _, hn', by simp only [if_neg q]; exact hmm⟩
      · exact .inr ⟨k1, cc, hc, cellAt hv fun o e => k _ o (F.cell _ _ hc).2.2 e⟩
    · exact absurd (F.two p hp (X, i) hs q) r
  · have hc : ∃ cc, env.cells.lookup X = some cc := by
      rcases F.kinds (X, i) hs with h | h
      · rw [hk] at h; cases h
      · exact h.2
    refine nng fun nG => ?_
    obtain ⟨cc, hcc⟩ := hc
    obtain ⟨h1, ⟨u, h2⟩, h3⟩ := F.cell X cc hcc
    refine nG ?_
    clear nG
    refine wpAny_storeName_cell F.kind (by rw [F.kdE]; exact hk) hcc h2 fun h' hc' hs' => ?_
    have k : ∀ b o, b ≠ cc → s.heap.get? b = some o → h'.get? b = some o := hs'.extBut
    obtain ⟨W', g⟩ := W.chg (s' := { s with heap := h' }) h1 ⟨_, s.toks, rfl⟩ k (let ⟨o, q, _⟩ := hc'; ⟨o, q⟩)
    obtain ⟨m, hm⟩ := F.ns
    have F' : Fm kd sc env fm h' := { F with
      ns := ⟨m, hm.at' fun o e => k _ o (Ne.symm h3) e⟩
      cell := fun y c2 e => by
        refine nng fun nG => ?_
        obtain ⟨q1, ⟨u2, q2⟩, q3⟩ := F.cell y c2 e
        refine nG ?_
        clear nG
        by_cases hh : c2 = cc
        · subst hh; exact ⟨q1, ⟨_, hc'⟩, q3⟩
        · exact ⟨q1, ⟨u2, cellAt q2 fun o q => k _ o hh q⟩, q3⟩ }
    refine hQ _ W' (adv_chg (O.cell _ _ hS hcc) k) F' fun p hp e he => ?_
    rcases one p hp e he with ⟨q, rfl⟩ | ⟨q, he⟩ | ⟨q, r⟩
    · exact ⟨v, .inr ⟨.inl (by rw [F.kdE, q]; exact hk), cc, by rw [q]; exact hcc, hc'⟩, g.lay (fun _ _ e => e) hl⟩
    · obtain ⟨u, hu, l⟩ := V p hp e he
      refine ⟨u, ?_, g.lay (fun _ _ e => e) l⟩
      rcases hu with ⟨k1, m1, hn1, hm1⟩ | ⟨k1, c2, hc2, hv⟩
      · exact .inl ⟨k1, m1, hn1.at' fun o e => k _ o (Ne.symm h3) e, hm1⟩
      · exact .inr ⟨k1, c2, hc2, cellAt hv fun o e => k _ o (fun hh => q (F.inj _ _ cc (hh ▸ hc2) hcc)) e⟩
    · exact absurd (F.two p hp (X, i) hs q) r
theorem store_ok {X : Str} {i : Nat} {v : Value} {Q : Unit → Shared → Prop} (F : Fm kd sc env fm s.heap) (O : Own env fm own) (W : Wf c fm ρ st s) (V : Vr sc env fm ρ σ s.heap) (hs : (X, i) ∈ sc) (hk : kd X = some .local ∨ kd X = some .cell)
    (hl : Lay (Out (fm ++ ρ) s.heap) ρ v d)
    (hQ : ∀ s', Wf c fm ρ st s' → Adv (own ++ ρ) (own ++ ρ) s s' → Fm kd sc env fm s'.heap → Vr sc env fm ρ (σ.set i d) s'.heap → Q () s') :
    wpAny (model c.prog c.w) A (storeName env X v) Q (fun _ _ => False) s := store_okS F O.all trivial W V hs hk hl hQ
end
end Mine.Internal
end
section
open PySem PySem.W PySem.Calls PyProof.Rows PySem.Builtin
set_option Elab.async false
set_option linter.unusedVariables false
namespace Mine.Internal

structure IterAt (c : Cx) (A : Around) (ms ρ : List Addr) (h₀ : Heap) (I : Addr) (ds : List D) (P : Nat → Value → Prop) (St : Nat → Heap → Prop) : Prop where
  item : ∀ i (s : Shared) (Q : Option Value → Shared → Prop) (E : Value → Shared → Prop), i < ds.length → St i s.heap →
    (∀ v h' tk, P i v → St (i + 1) h' → (∀ b o, b ≠ I → s.heap.get? b = some o → h'.get? b = some o) → Q (some v) { s with heap := h', toks := tk }) → wpAny (model c.prog c.w) A (pyNext (.ref I)) Q E s
  done : ∀ (s : Shared) (Q : Option Value → Shared → Prop) (E : Value → Shared → Prop), St ds.length s.heap →
    (∀ h' tk, (∀ b o, b ≠ I → s.heap.get? b = some o → h'.get? b = some o) → Q none { s with heap := h', toks := tk }) → wpAny (model c.prog c.w) A (pyNext (.ref I)) Q E s
  self : ∀ i (s : Shared) (Q : Value → Shared → Prop) (E : Value → Shared → Prop), St i s.heap → Q (.ref I) s → wpAny (model c.prog c.w) A (pyIter (.ref I)) Q E s
  alive : ∀ i h, St i h → ∃ o, h.get? I = some o
  frame : ∀ i h h', St i h → (∀ o, h.get? I = some o → h'.get? I = some o) → (∀ b o, Out ms h₀ b o → h.get? b = some o) → (∀ b o, Out ms h₀ b o → h'.get? b = some o) → St i h'
  laid : ∀ i v, P i v → ∃ d, ds[i]? = some d ∧ Lay (Out ms h₀) ρ v d

section
variable {c : Cx} {A : Around} {kd : Str → Option NameKind} {sc : List (Str × Nat)} {σ σ' σ₁ σ₂ : Vars} {st st₁ st₂ st₃ st' : Store} {x y d : D} {n : Nat} {pos : Pos} {env : Env} {fm fm' own ρ ρ' : List Addr} {s s' : Shared}

theorem IterAt.of {ms : List Addr} {h₀ : Heap} {I : Addr} {fp : List Addr} {ds : List D} {P : Nat → Value → Prop} {St : Nat → Heap → Prop} (W : Walks c.prog c.w A I fp [I] ds.length P St) (al : ∀ i h, St i h → ∃ o, h.get? I = some o)
    (hfp : ∀ b ∈ fp, b = I ∨ (∃ o, Out ms h₀ b o)) (hl : ∀ i v, P i v → ∃ d, ds[i]? = some d ∧ Lay (Out ms h₀) ρ v d) : IterAt c A ms ρ h₀ I ds P St where
  item := fun i s Q E hi st h => W.item i s Q E hi st fun v h' tk p q k => h v h' tk p q fun b o hb e => k b o (by simpa using hb) e
  done := fun s Q E st h => W.done s Q E st fun h' tk k => h h' tk fun b o hb e => k b o (by simpa using hb) e
  self := W.self
  alive := al
  frame := fun i h h' st hI hO hO' => W.frame i h h' st fun b hb o e => by
    rcases hfp b hb with q | ⟨o', ho⟩
    · rw [q] at e ⊢; exact hI o e
    · have := hO b o' ho; rw [this] at e; cases e; exact hO' b _ ho
  laid := hl

theorem out_ne {ms : List Addr} {h : Heap} {a : Addr} {o : Obj} (x : Out ms h a o) : a ≠ h.objs.size := fun e => by
  have := x.1; rw [e, size_none] at this; cases this

theorem iter_ok {v : Value} {ds : List D} {Q : Value → Shared → Prop} (R : Rm n A) (la : Lay (Out (fm ++ ρ) s.heap) ρ v d) (hi : items d = some ds)
    (hQ : ∀ o P St, IterAt c A (fm ++ ρ) ρ s.heap s.heap.objs.size ds P St → o.isFreed = false → St 0 (s.heap.push o) → Q (.ref s.heap.objs.size) { s with heap := s.heap.push o }) :
    wpAny (model c.prog c.w) A (pyIter v) Q (fun _ _ => False) s := by
  cases d with
  | lst l =>
    cases hi
    cases la with | lst ho ls =>
    rename_i a' vs' n'
    have W := Walks.list (prog := c.prog) (w := c.w) R.1 s.heap.objs.size a' (out_ne ho) vs'.toArray
    rw [show vs'.toArray.size = ds.length by rw [List.size_toArray]; exact ls.length] at W
    refine wpAny_pyIter_list (lst_isList ho.1) (hQ _ _ _ (IterAt.of W (fun i h st => let ⟨o, e, _⟩ := st.1; ⟨o, e⟩) (fun b hb => ?_) fun i v hv => ls.get' (by simpa using hv)) rfl ⟨⟨_, Heap.get?_push_size _ rfl, rfl, rfl⟩, (lst_isList ho.1).push _⟩)
    rcases List.mem_cons.mp hb with rfl | hb
    · exact .inl rfl
    · rw [List.mem_singleton.mp hb]; exact .inr ⟨_, ho⟩
  | tup l =>
    cases hi
    cases la with | tup ho ls =>
    rename_i a' vs' n'
    have W := Walks.tuple (prog := c.prog) (w := c.w) R.1 s.heap.objs.size a' (out_ne ho) vs'.toArray
    rw [show vs'.toArray.size = ds.length by rw [List.size_toArray]; exact ls.length] at W
    have hT : s.heap.IsTuple _ _ := ⟨_, ho.1, rfl, _, rfl⟩
    refine wpAny_pyIter_tuple hT (hQ _ _ _ (IterAt.of W (fun i h st => let ⟨o, e, _⟩ := st.1; ⟨o, e⟩) (fun b hb => ?_) fun i v hv => ls.get' (by simpa using hv)) rfl ⟨⟨_, Heap.get?_push_size _ rfl, rfl, rfl⟩, hT.push _⟩)
    rcases List.mem_cons.mp hb with rfl | hb
    · exact .inl rfl
    · rw [List.mem_singleton.mp hb]; exact .inr ⟨_, ho⟩
  | str x =>
    cases hi
    cases la with | str _ t =>
    refine wpAny_pyIter_strU (hQ _ (SignAt x) (fun i h => h.IsStrIter s.heap.objs.size (strIterType x) x t i) ?_ rfl ⟨_, Heap.get?_push_size _ rfl, rfl, rfl⟩)
    have W : Walks c.prog c.w A s.heap.objs.size [s.heap.objs.size] [s.heap.objs.size] x.cps.size (SignAt x) (fun i h => h.IsStrIter s.heap.objs.size (strIterType x) x t i) := by
      unfold strIterType
      cases ha : x.cps.all (· < 128)
      · exact Walks.strWide R.1 _ x t
      · exact Walks.strAscii R.1 _ x t
    refine IterAt.of (W := by simpa using W) (fun i h st => let ⟨o, e, _⟩ := st; ⟨o, e⟩) (fun b hb => .inl (List.mem_singleton.mp hb)) fun i v hv => ?_
    obtain ⟨c, u, hc, rfl⟩ := hv
    exact ⟨.str ⟨#[c]⟩, by simp [hc], .str _ _⟩
  | rng a b c' =>
      obtain ⟨⟨hc1, hsm⟩, hi⟩ := if_ok hi
      cases hi
      cases la with | rng ho =>
      have h0 : 0 ≤ Builtin.Range.rangeSize a b c' := by
        rcases hc1 with rfl | rfl
        · unfold Builtin.Range.rangeSize; split <;> lia
        · unfold Builtin.Range.rangeSize
          have e : (- -1 : Int) = 1 := rfl
          simp only [e]
          repeat' split
          all_goals lia
      have W := Walks.range (prog := c.prog) (w := c.w) (A := A) R.1 s.heap.objs.size a c' (Builtin.Range.rangeSize a b c').toNat
      refine wpAny_pyIter_range ho.1 hsm (hQ _ _ _ (IterAt.of (W := by rw [List.length_map, List.length_range]; exact W.bound) (fun i h st => ⟨_, st⟩) (fun b hb => .inl (List.mem_singleton.mp hb)) fun i v hv => ?_) rfl ?_)
      · obtain ⟨hlt, t, rfl⟩ := hv
        exact ⟨.int (a + i * c'), by simp only [List.getElem?_map, List.getElem?_range hlt, Option.map_some], .int _ _⟩
      · show Heap.get? _ _ = some _
        rw [Heap.get?_push_size _ rfl]
        simp only [Int.toNat_of_nonneg h0, rawInt]
        simp
  | none => exact bad hi
  | bool => exact bad hi
  | int => exact bad hi
  | flt => exact bad hi
  | ref => exact bad hi

structure IterS (c : Cx) (A : Around) (fm ρ : List Addr) (h₀ : Heap) (I : Addr) (tg : Tg) (src : Store → Nat → Option (Option D)) (St : Nat → Heap → Prop) : Prop where
  step : ∀ j (fm' ρi : List Addr) (sti : Store) (s : Shared) (o : Option D) (Q : Option Value → Shared → Prop) (E : Value → Shared → Prop), Wf c fm' ρi sti s → I ∈ fm' → Go (fm ++ ρ) (fm' ++ ρi) h₀ s.heap → (∀ (i : Nat) (a : Addr), ρ[i]? = some a → ρi[i]? = some a) → St j s.heap → src sti j = some o →
    (match o with
      | none => ∀ h' tk, (∀ b o, b ≠ I → s.heap.get? b = some o → h'.get? b = some o) → Q none { s with heap := h', toks := tk }
      | some d => ∀ v h' tk, Lay (Out (fm' ++ ρi) s.heap) ρi v d → St (j + 1) h' → (∀ b o, b ≠ I → s.heap.get? b = some o → h'.get? b = some o) → Q (some v) { s with heap := h', toks := tk }) →
    wpAny (model c.prog c.w) A (pyNext (.ref I)) Q E s
  self : ∀ i (s : Shared) (Q : Value → Shared → Prop) (E : Value → Shared → Prop), St i s.heap → Q (.ref I) s → wpAny (model c.prog c.w) A (pyIter (.ref I)) Q E s
  alive : ∀ i h, St i h → ∃ o, h.get? I = some o
  frame : ∀ i h h', St i h → (∀ o, h.get? I = some o → h'.get? I = some o) → (∀ b o, Out (fm ++ ρ) h₀ b o → h.get? b = some o) → (∀ b o, Out (fm ++ ρ) h₀ b o → h'.get? b = some o) → St i h'
  lets : ∀ i (s : Shared) (xs : List Nat) (elts : List Expr) (k : Nat) (p : Pos) (T : Addr) (Q : Unit → Shared → Prop) (E : Value → Shared → Prop), tg = .tup xs → St i s.heap → Q () s → wpAny (model c.prog c.w) A (letOwnedTupleGo (.Tuple elts k p) (.ref I) (.ref T)) Q E s

theorem IterS.of {I : Addr} {tg : Tg} {ds : List D} {P : Nat → Value → Prop} {St : Nat → Heap → Prop} (It : IterAt c A (fm ++ ρ) ρ s.heap I ds P St) (hl : ∀ xs, tg = .tup xs → ∀ j h, St j h → ∃ l i, h.IsListIter I l i) :
    IterS c A fm ρ s.heap I tg (fun _ j => some ds[j]?) (fun j h => St j h ∧ j ≤ ds.length) where
  step := fun j fm' ρi sti s' o Q E W hI g pre st e h => by
    cases e
    by_cases hlt : j < ds.length
    · have e : ds[j]? = some ds[j] := List.getElem?_eq_getElem hlt
      rw [e] at h
      refine It.item j s' Q E hlt st.1 fun v h' tk hP hst k => ?_
      obtain ⟨d', hd', ld⟩ := It.laid j v hP
      rw [e] at hd'; cases hd'
      exact h v h' tk (g.lay pre ld) ⟨hst, hlt⟩ k
    · have hj : j = ds.length := by have := st.2; lia
      subst hj
      have e : ds[ds.length]? = none := by simp
      rw [e] at h
      exact It.done s' Q E st.1 h
  self := fun i s' Q E st h => It.self i s' Q E st.1 h
  alive := fun i h st => It.alive i h st.1
  frame := fun i h h' st a b c => ⟨It.frame i h h' st.1 a b c, st.2⟩
  lets := fun i s' xs elts k p T Q E e st h => by
    obtain ⟨l, j, hit⟩ := hl xs e i _ st.1
    exact wpAny_letOwnedTupleGo_listiter hit h

theorem iter_okS {tg : Tg} {v : Value} {src : Store → Nat → Option (Option D)} {Q : Value → Shared → Prop} (R : Rm n A) (W : Wf c fm ρ st s) (la : Lay (Out (fm ++ ρ) s.heap) ρ v d) (hi : srcOf tg d = some src) (h0 : ∃ o, src st 0 = some o)
    (hQ : ∀ o St, IterS c A fm ρ s.heap s.heap.objs.size tg src St → o.isFreed = false → St 0 (s.heap.push o) → Q (.ref s.heap.objs.size) { s with heap := s.heap.push o }) :
    wpAny (model c.prog c.w) A (pyIter v) Q (fun _ _ => False) s := by
  rcases orP_ok hi with hi | hi
  · obtain ⟨l, h1, hi⟩ := mp_ok hi
    cases hi
    rw [dL_ok h1] at la
    cases la with | lst p r =>
    rename_i a vs nn
    have Wk := Walks.list (prog := c.prog) (w := c.w) R.1 s.heap.objs.size a (out_ne p) vs.toArray
    rw [show vs.toArray.size = l.length by rw [List.size_toArray]; exact r.length] at Wk
    refine wpAny_pyIter_list (lst_isList p.1) (hQ _ _ (IterS.of (IterAt.of Wk (fun i h st => let ⟨o, e, _⟩ := st.1; ⟨o, e⟩) (fun b hb => ?_) fun i v hv => r.get' (by simpa using hv)) fun xs _ j h st => ⟨_, _, st.1⟩) rfl ⟨⟨⟨_, Heap.get?_push_size _ rfl, rfl, rfl⟩, (lst_isList p.1).push _⟩, Nat.zero_le _⟩)
    rcases List.mem_cons.mp hb with rfl | hb
    · exact .inl rfl
    · rw [List.mem_singleton.mp hb]; exact .inr ⟨_, p⟩
  obtain ⟨hone, hi⟩ := if_ok hi
  cases tg with
  | tup xs => exact Bool.noConfusion hone
  | one x =>
  rcases orP_ok hi with hi | hi
  · obtain ⟨r, h1, hi⟩ := mp_ok hi
    cases hi
    rw [dR_ok h1] at la
    cases la with | ref ha =>
    rename_i a
    have atR : ∀ {j : Nat} {sti : Store} {o : Option D}, (getMl sti (.ref r)).map (fun q => q.2[j]?) = some o → ∃ l, sti[r]? = some (.ml l) ∧ o = l[j]? := fun {j sti o} h => by
      obtain ⟨q, h1, h2⟩ := mp_ok h
      obtain ⟨e1, e2⟩ := getMl_ok h1
      injection e1 with e1
      exact ⟨q.2, e1 ▸ e2, h2.symm⟩
    obtain ⟨o0, h0⟩ := h0
    obtain ⟨l0, e0, _⟩ := atR h0
    obtain ⟨vs0, n0, ho, _⟩ := W.store _ _ _ ha e0
    have hne : a ≠ s.heap.objs.size := Nat.ne_of_lt (Heap.lt_size ho)
    refine wpAny_pyIter_list (lst_isList ho) (hQ _ (fun j h => h.IsListIter s.heap.objs.size a j) ⟨fun j fm' ρi sti s' o Q E W' hI g pre hit e h => ?_, fun i s' Q E st h => wpAny_pyIter_listiter st h, fun i h st => let ⟨o, e, _⟩ := st; ⟨o, e⟩, fun i h h' st hI _ _ => st.at fun o e => hI o e, fun i s' xs elts k p T Q E e st h => wpAny_letOwnedTupleGo_listiter st h⟩ rfl ⟨_, Heap.get?_push_size _ rfl, rfl, rfl⟩)
    obtain ⟨l, e1, rfl⟩ := atR e
    obtain ⟨vs, nn, hoo, ls⟩ := W'.store _ _ _ (pre _ _ ha) e1
    cases hd : l[j]? with
    | none =>
      rw [hd] at h
      have hv : vs.toArray[j]? = none := by
        simp only [List.getElem?_toArray]
        rw [List.getElem?_eq_none_iff] at hd ⊢
        rw [ls.length]; exact hd
      exact wpAny_pyNext_list_end R.1 hit (lst_isList hoo) hv fun h' he => h h' s'.toks fun b o hb q => he b o hb q
    | some d' =>
      rw [hd] at h
      obtain ⟨v, hv, lv⟩ := ls.get hd
      exact wpAny_pyNext_list_item hit (lst_isList hoo) (x := v) (by simpa using hv) fun h' hit' hs' => h v h' s'.toks lv hit' fun b o hb q => hs'.extBut b o hb q
  · refine nng fun nG => ?_
    obtain ⟨ds, hds, rfl⟩ := mp_ok hi
    refine nG ?_
    clear nG
    exact iter_ok R la hds fun o P St It ho hst => hQ o _ (IterS.of It fun xs e => by cases e) ho ⟨hst, Nat.zero_le _⟩
end
end Mine.Internal
end
section
open PySem PySem.W PySem.Calls PyProof.Rows PySem.Builtin
set_option Elab.async false
set_option linter.unusedVariables false
namespace Mine.Internal

noncomputable def nmE (q : Str × Pos) : Expr := .Name q.1 q.2
noncomputable def TgtOk (kd : Str → Option NameKind) (sc : List (Str × Nat)) : List (Str × Pos) → List Nat → Prop
  | [], [] => True
  | q :: r, i :: is => (q.1, i) ∈ sc ∧ (kd q.1 = some .local ∨ kd q.1 = some .cell) ∧ TgtOk kd sc r is
  | _, _ => False
noncomputable def ntup (e : Expr) : Bool := !(Nat.beq e.ctorIdx 25) && !(Nat.beq e.ctorIdx 24)

noncomputable def nocomp (e : Expr) : Bool := !(Nat.beq e.ctorIdx 8) && (!(Nat.beq e.ctorIdx 9) && !(Nat.beq e.ctorIdx 10))
theorem nocomp_swap {e : Expr} (h : nocomp e = true) (t : Option Expr) (l : Nat) (env : Env) : swapsWith e t l env = pure false := by
  cases e <;> first | rfl | exact Bool.noConfusion h
section
variable {c : Cx} {A : Around} {kd : Str → Option NameKind} {sc : List (Str × Nat)} {σ σ' σ₁ σ₂ : Vars} {st st₁ st₂ st₃ st' : Store} {x y d : D} {n : Nat} {pos : Pos} {env : Env} {fm fm' own ρ ρ' : List Addr} {s s' : Shared} {h h' : Heap}

theorem get_ne {h : Heap} {a b : Addr} {o : Obj} (e : h.get? b = some o) (n : h.get? a = none) : b ≠ a := fun q => by rw [q, n] at e; cases e
theorem tgt_each : ∀ (ts : List (Str × Pos)), assignEach (ts.map nmE) env = ts.map fun q => (false, assign (nmE q) env)
  | [] => rfl
  | q :: r => congrArg (_ :: ·) (tgt_each r)
theorem tgt_len : ∀ {ts : List (Str × Pos)} {is : List Nat}, TgtOk kd sc ts is → ts.length = is.length
  | [], [], _ => rfl
  | q :: r, i :: is, h => congrArg Nat.succ (tgt_len h.2.2)
  | [], _ :: _, h => h.elim
  | _ :: _, [], h => h.elim
theorem assign_all {S : Str → Prop} : ∀ (ts : List (Str × Pos)) (is : List Nat) (ds : List D) (vs : List Value) (σ σ' : Vars) (s : Shared) (Q : Unit → Shared → Prop), TgtOk kd sc ts is → setAll is ds σ = some σ' → Fm kd sc env fm s.heap → OwnS S env fm own → (∀ q ∈ ts, S q.1) → Wf c fm ρ st s → Vr sc env fm ρ σ s.heap →
    Lays (Out (fm ++ ρ) s.heap) ρ vs ds → (∀ s', Wf c fm ρ st s' → Adv (own ++ ρ) (own ++ ρ) s s' → Fm kd sc env fm s'.heap → Vr sc env fm ρ σ' s'.heap → Q () s') → wpAny (model c.prog c.w) A (assignInOrder (ts.map fun q => assign (nmE q) env) vs) Q (fun _ _ => False) s := by
  intro ts
  induction ts with
  | nil =>
    intro is ds vs σ σ' s Q h e F O hS W V ls hQ
    cases is with
    | cons => exact h.elim
    | nil => cases ds with
      | cons => cases e
      | nil => cases e; cases ls; exact assignInOrder_nil (hQ s W (Adv.refl _ _) F V)
  | cons q r ih =>
    intro is ds vs σ σ' s Q h e F O hS W V ls hQ
    cases is with
    | nil => exact h.elim
    | cons i is => cases ds with
      | nil => cases e
      | cons d ds => cases ls with
        | cons l ls =>
          rw [List.map_cons]
          refine assignInOrder_cons (wpAny_assign_Name (store_okS F O (hS _ (.head _)) W V h.1 h.2.1 l fun s1 W1 A1 F1 V1 => ?_))
          exact ih is ds _ _ σ' s1 Q h.2.2 e F1 O (fun q hq => hS q (.tail _ hq)) W1 V1 ((A1.wide O.sub).lays (fun _ _ e => e) ls) fun s2 W2 A2 F2 V2 => hQ s2 W2 (A1.trans A2) F2 V2
inductive TgE (kd : Str → Option NameKind) (sc : List (Str × Nat)) : Tg → Expr → Prop
  | one {X : Str} {i : Nat} {p : Pos} : (X, i) ∈ sc → (kd X = some .local ∨ kd X = some .cell) → TgE kd sc (.one i) (.Name X p)
  | tup {ts : List (Str × Pos)} {is : List Nat} {k : Nat} {p : Pos} : TgtOk kd sc ts is → TgE kd sc (.tup is) (.Tuple (ts.map nmE) k p)
theorem setAll_len : ∀ {is : List Nat} {ds : List D} {σ σ' : Vars}, setAll is ds σ = some σ' → ds.length = is.length
  | [], [], _, _, _ => rfl
  | i :: is, d :: ds, σ, σ', h => congrArg Nat.succ (setAll_len (σ := σ.set i d) h)
theorem tup_assign {S : Str → Prop} {ts : List (Str × Pos)} {is : List Nat} {k : Nat} {p : Pos} {ds : List D} {v : Value} {Q : Unit → Shared → Prop} (R : Rm n A) (ht : TgtOk kd sc ts is) (hs : setAll is ds σ = some σ') (F : Fm kd sc env fm s.heap) (O : OwnS S env fm own) (hS : ∀ q ∈ ts, S q.1) (W : Wf c fm ρ st s) (V : Vr sc env fm ρ σ s.heap)
    (l : Lay (Out (fm ++ ρ) s.heap) ρ v (.tup ds)) (hQ : ∀ s', Wf c fm ρ st s' → Adv (own ++ ρ) (own ++ ρ) s s' → Fm kd sc env fm s'.heap → Vr sc env fm ρ σ' s'.heap → Q () s') :
    wpAny (model c.prog c.w) A (assign (.Tuple (ts.map nmE) k p) env v) Q (fun _ _ => False) s := by
  have hlen := setAll_len hs
  cases l with | tup ho ls =>
  rename_i a vs nn
  refine assign_Tuple_tuple R.1 ⟨_, ho.1, rfl, _, rfl⟩ (by rw [tgt_each, List.length_map, tgt_len ht, List.size_toArray, ls.length, hlen]) (by rw [tgt_each, List.findIdx?_eq_none_iff]; intro q hq; obtain ⟨q', _, rfl⟩ := List.mem_map.mp hq; rfl) fun h2 e2 => ?_
  have k2 : Keeps s { s with heap := h2 } := ⟨h2, s.toks, rfl, fun b o e => e2 b o (get_ne e (size_none _)) e⟩
  have A2 := kp_adv k2 ρ
  rw [tgt_each, List.map_map]
  exact assign_all _ _ _ _ _ _ _ _ ht hs (F.adv W A2) O hS (W.keeps k2) (V.adv F W A2) (A2.lays ls) fun s3 W3 A3 F3 V3 => hQ s3 W3 ((A2.up own).trans A3) F3 V3
noncomputable def tgN : Expr → List Str
  | .Name X _ => [X]
  | .Tuple ts _ _ => ts.flatMap fun e => match e with | .Name X _ => [X] | _ => []
  | _ => []
theorem tgN_tup {ts : List (Str × Pos)} {k : Nat} {p : Pos} : ∀ q ∈ ts, q.1 ∈ tgN (.Tuple (ts.map nmE) k p) := fun q hq => by
  refine List.mem_flatMap.mpr ⟨nmE q, List.mem_map.mpr ⟨q, hq, rfl⟩, ?_⟩
  simp [nmE]
theorem tg_assign {S : Str → Prop} {tg : Tg} {te : Expr} {v : Value} {Q : Unit → Shared → Prop} (R : Rm n A) (ht : TgE kd sc tg te) (hs : bindT tg σ d = some σ') (F : Fm kd sc env fm s.heap) (O : OwnS S env fm own) (hS : ∀ x ∈ tgN te, S x) (W : Wf c fm ρ st s) (V : Vr sc env fm ρ σ s.heap)
    (l : Lay (Out (fm ++ ρ) s.heap) ρ v d) (hQ : ∀ s', Wf c fm ρ st s' → Adv (own ++ ρ) (own ++ ρ) s s' → Fm kd sc env fm s'.heap → Vr sc env fm ρ σ' s'.heap → Q () s') :
    wpAny (model c.prog c.w) A (assign te env v) Q (fun _ _ => False) s := by
  cases ht with
  | one hx hk => cases hs; exact wpAny_assign_Name (store_okS F O (hS _ (List.Mem.head _)) W V hx hk l hQ)
  | tup hts =>
    obtain ⟨ds, h1, hs⟩ := bd_ok hs
    rw [dT_ok h1] at l
    exact tup_assign R hts hs F O (fun q hq => hS _ (tgN_tup q hq)) W V l hQ
theorem tg_lets {tg : Tg} {te : Expr} {v : Value} {I : Addr} {src : Store → Nat → Option (Option D)} {St : Nat → Heap → Prop} {h₀ : Heap} {j : Nat} {fm₁ ρ₁ : List Addr} {P : Addr → Obj → Prop} {ρ' : List Addr} {E : Value → Shared → Prop} {Q : Unit → Shared → Prop} (It : IterS c A fm₁ ρ₁ h₀ I tg src St) (ht : TgE kd sc tg te) (hs : bindT tg σ d = some σ')
    (l : Lay P ρ' v d) (hst : St j s.heap) (hQ : Q () s) : wpAny (model c.prog c.w) A (letOwnedTupleGo te (.ref I) v) Q E s := by
  cases ht with
  | one hx hk => exact wpAny_of_eq rfl hQ
  | tup hts =>
    obtain ⟨ds, h1, hs⟩ := bd_ok hs
    rw [dT_ok h1] at l
    obtain ⟨a, vs, nn, rfl, _⟩ := l.tupI
    exact It.lets j s _ _ _ _ _ Q E rfl hst hQ
theorem ntup_swap {e : Expr} (h : ntup e = true) (h2 : nocomp e = true) (ts : List Expr) (k : Nat) (p : Pos) (l : Nat) (env : Env) : swapsWithSole [.Tuple ts k p] e l env = pure false ∧ swappedStores [.Tuple ts k p] e env = pure none := by
  cases e <;> first | exact ⟨rfl, rfl⟩ | exact Bool.noConfusion h | exact Bool.noConfusion h2
theorem x_asgT {ts : List (Str × Pos)} {is : List Nat} {e : Expr} {k : Nat} {p : Pos} {ds : List D} (R : Rm n A) (ht : TgtOk kd sc ts is) (hn : ntup e = true) (h2 : nocomp e = true) (h : EvE c A kd sc e σ st (.tup ds) st₁) (hs : setAll is ds σ = some σ') (hlen : ds.length = is.length) :
    ExS c A kd sc (.Assign [.Tuple (ts.map nmE) k p] e pos) σ st .next σ' st₁ := by
  intro env fm own ρ s F O W V Q hQ
  refine Assign_Tuple (h env fm ρ s F W V _ fun v s1 ρ1 W1 A1 l => ?_) (ntup_swap hn h2 _ k p pos.line env).1 (ntup_swap hn h2 _ k p pos.line env).2
  exact tup_assign R ht hs (F.adv W A1) O.all (fun _ _ => trivial) W1 (V.adv F W A1) l fun s3 W3 A3 F3 V3 => hQ .next s3 ρ1 W3 ((A1.up own).trans A3) F3 V3 rfl

theorem Wf.upd (W : Wf c fm ρ st s) {r : Nat} {a : Addr} {mo : MO} (hr : ρ[r]? = some a) (hs : ∃ h tk, s' = { s with heap := h, toks := tk }) (k : ∀ b o, b ≠ a → s.heap.get? b = some o → s'.heap.get? b = some o) (al : ∃ o, s'.heap.get? a = some o)
    (hm : MoAt c (fm ++ ρ) ρ s'.heap a mo) : Wf c fm ρ (st.set r mo) s' ∧ Adv ρ ρ s s' := by
  have ha : a ∈ ρ := List.mem_of_getElem? hr
  have A1 : Adv ρ ρ s s' := ⟨fun b o hb e => k b o (fun q => hb (q ▸ ha)) e, fun _ h n => absurd h n, fun _ _ e => e⟩
  refine ⟨⟨?_, fun b o e => ?_, fun b hb => ?_, W.new, by simp [W.len], fun i b mo' e1 e2 => ?_, W.nodup, W.apart⟩, A1⟩
  · refine nng fun nG => ?_
    obtain ⟨h, t, g, e, hg⟩ := W.same
    obtain ⟨h', t', rfl⟩ := hs
    refine nG ?_
    clear nG
    exact ⟨h', t', g, by rw [e], hg⟩
  · exact k b o (fun q => by rw [q, W.new a (.inr ha)] at e; cases e) (W.base b o e)
  · by_cases q : b = a
    · exact q ▸ al
    · obtain ⟨o, e⟩ := W.alive b hb; exact ⟨o, k b o q e⟩
  · by_cases hi : i = r
    · subst hi
      rw [hr] at e1; cases e1
      rw [List.getElem?_set_self (by rw [← W.len]; exact (List.getElem?_eq_some_iff.mp hr).1)] at e2
      cases e2; exact hm
    · rw [List.getElem?_set_ne (Ne.symm hi)] at e2
      have hb : b ≠ a := fun q => hi (by
        subst q
        exact (List.getElem?_inj (List.getElem?_eq_some_iff.mp e1).1 W.nodup).mp (e1.trans hr.symm))
      exact (W.store i b mo' e1 e2).mono (fun _ _ q => (A1.go fm).out q) (fun _ _ e => e) fun o e => k b o hb e

theorem setItem_plain {a : Addr} {vs : List Value} {n : Nat} {j : Int} {t : Tok} {v : Value} {Q : Unit → Shared → Prop} {E : Value → Shared → Prop} (ho : s.heap.get? a = some (lstObj vs n)) (h0 : 0 ≤ j) (hj : j < 2 ^ 63) (hb : j < (vs.toArray.size : Int))
    (hQ : ∀ h' n', h'.get? a = some (lstObj (vs.set j.toNat v) n') → (∀ b o, b ≠ a → s.heap.get? b = some o → h'.get? b = some o) → Q () { s with heap := h' }) : wpAny (model c.prog c.w) A (setItem (.ref a) (.int j t) v) Q E s := by
  have hl : s.heap.IsList a vs.toArray := ⟨_, ho, rfl, _, rfl⟩
  unfold setItem
  try with_reducible refine wpAny_holding ?_
  first | refine wpAny_bind (wpAny_pure ?_) | skip
  refine wpAny_bind (wpAny_sequenceKey hl.typeIs (by decide) ?_)
  refine wpAny_bind (wpAny_callSpecial?_slot (name := Str.ofString "__setitem__") hl.typeIs slot_list_setitem
    (wpAny_call_entry slot_list_setitem hl.typeIs entry_list_setitem ?_ (args_list_setitem _ _ _)))
  show wpAny _ _ (Builtin.List.listSubscript? (.int j t) >>= _) _ _ s
  refine wpAny_bind (wpAny_listSubscript_int (fitsIndex_of h0 hj) ?_)
  clear hj
  obtain ⟨k, rfl⟩ := Int.eq_ofNat_of_zero_le h0
  have hk : k < vs.toArray.size := by omega
  have hx' : vs.toArray[k]? = some vs.toArray[k] := Array.getElem?_eq_getElem hk
  show wpAny _ _ ((seqItemAt a k >>= fun r => pure (r.map (k, ·))) >>= _) _ _ s
  refine wpAny_bind (wpAny_bind (wpAny_seqItemAt ho rfl (wpAny_pure ?_)))
  rw [hx']
  show wpAny _ _ (setSeqItemAt a k v >>= _) _ _ s
  have e9 := get?_update_seq ho (·.setIfInBounds k v)
  have e8 : vs.toArray.setIfInBounds k v = (vs.set k v).toArray := by simp
  rw [e8] at e9
  have fin := hQ _ _ e9 fun b o hb e => (Heap.get?_update_ne _ _ _ _ hb).trans e
  refine wpAny_bind (wpAny_setSeqItemAt ho rfl ?_)
  first
    | exact wpAny_bind (wpAny_pure (wpAny_pure ⟨.none, rfl, wpAny_pure fin⟩))
    | exact wpAny_pure ⟨.none, rfl, wpAny_pure fin⟩
theorem x_seti {X : Str} {p p2 : Pos} {i r : Nat} {e ie : Expr} {j : Int} {l : List D} (hx : okName X = true) (hs : (X, i) ∈ sc) (hc : nocomp e = true) (h : EvE c A kd sc e σ st x st₁) (hi : EvE c A kd sc ie σ st₁ (.int j) st₂)
    (hr : σ.get i = some (.ref r)) (hl : st₂[r]? = some (.ml l)) (h0 : 0 ≤ j) (hj : j.natAbs ≤ lid) (hb : j.toNat < l.length) :
    ExS c A kd sc (.Assign [.Subscript (.Name X p) ie p2] e pos) σ st .next σ (st₂.set r (.ml (l.set j.toNat x))) := by
  intro env fm own ρ s F O W V Q hQ
  refine wpAny_Assign_Subscript (h env fm ρ s F W V _ fun v s1 ρ1 W1 A1 lv => ?_) (nocomp_swap hc _ _ _)
  have F1 := F.adv W A1
  have V1 := V.adv F W A1
  refine e_var hx hs hr env fm ρ1 s1 F1 W1 V1 _ fun vo s2 ρ2 W2 A2 lo => ?_
  have F2 := F1.adv W1 A2
  have V2 := V1.adv F1 W1 A2
  refine hi env fm ρ2 s2 F2 W2 V2 _ fun vi s3 ρ3 W3 A3 li => ?_
  cases li with | int _ t =>
  cases A3.lay lo with | ref ha =>
  rename_i a
  obtain ⟨vs, nn, hl3, ls⟩ := W3.store _ _ _ ha hl
  have hsz : j < (vs.toArray.size : Int) := by rw [List.size_toArray, ls.length]; omega
  refine setItem_plain hl3 h0 (lid63' hj) hsz fun h4 n4 hl4 k4 => ?_
  have A4 : Adv ρ3 ρ3 s3 { s3 with heap := h4 } := ⟨fun b o hb e => k4 b o (fun q => hb (q ▸ List.mem_of_getElem? ha)) e, fun _ h n => absurd h n, fun _ _ e => e⟩
  have lx := (A3.lay (A2.lay lv))
  obtain ⟨W4, _⟩ := W3.upd (s' := { s3 with heap := h4 }) (mo := .ml (l.set j.toNat x)) ha ⟨_, s3.toks, rfl⟩ k4 ⟨_, hl4⟩ ⟨vs.set j.toNat v, n4, hl4, ((A4.lays ls).set (A4.lay lx) j.toNat)⟩
  have AA := A2.trans (A3.trans A4)
  exact hQ .next _ ρ3 W4 ((A1.trans AA).up own) (F.adv W (A1.trans AA)) (V.adv F W (A1.trans AA)) rfl
end
end Mine.Internal
end
section
open PySem PySem.W PySem.Calls PyProof.Rows PySem.Builtin
set_option Elab.async false
set_option linter.unusedVariables false
namespace Mine.Internal

theorem Go.trans {a b c : List Addr} {h h' h'' : Heap} (x : Go a b h h') (y : Go b c h' h'') : Go a c h h'' := by
  refine ⟨fun q o hq e => (y.out (x.out ⟨e, hq⟩)).1, fun q hq hn => ?_⟩
  by_cases hb : q ∈ b
  · exact x.news q hb hn
  · have := y.news q hq hb
    cases e : h.get? q with
    | none => rfl
    | some o => rw [x.keep q o hn e] at this; cases this
theorem Go.sub {a b c : List Addr} {h h' : Heap} (x : Go a b h h') (s : ∀ q ∈ c, q ∈ b) : Go a c h h' := ⟨x.keep, fun q hq => x.news q (s q hq)⟩
theorem Go.add {a b : List Addr} {h h' : Heap} {I : Addr} (x : Go a b h h') (hI : h.get? I = none) : Go a (I :: b) h h' := ⟨x.keep, fun q hq hn => by
  rcases List.mem_cons.mp hq with rfl | hq
  · exact hI
  · exact x.news q hq hn⟩
theorem Go.refl (a : List Addr) (h : Heap) : Go a a h h := ⟨fun _ _ _ e => e, fun _ h n => absurd h n⟩

section
variable {c : Cx} {A : Around} {kd : Str → Option NameKind} {sc : List (Str × Nat)} {σ σ' σ₁ σ₂ : Vars} {st st₁ st₂ st₃ st' : Store} {x y d : D} {n : Nat} {pos : Pos} {env : Env} {fm fm' own ρ ρ' : List Addr} {s s' : Shared} {h h' : Heap}

theorem Fm.weak (F : Fm kd sc env fm h) (hs : ∀ a ∈ fm, a ∈ fm') : Fm kd sc env fm' h :=
  { F with loc := hs _ F.loc, cell := fun y cc e => ⟨hs _ (F.cell y cc e).1, (F.cell y cc e).2⟩ }
theorem Fm.back (F : Fm kd sc env fm h) (F' : Fm kd sc env fm' h') : Fm kd sc env fm h' :=
  { F' with loc := F.loc, cell := fun y cc e => ⟨(F.cell y cc e).1, (F'.cell y cc e).2⟩ }
theorem Fm.keep (F : Fm kd sc env fm h) (k : ∀ a ∈ fm, ∀ o, h.get? a = some o → h'.get? a = some o) : Fm kd sc env fm h' :=
  { F with
    ns := let ⟨m, hn⟩ := F.ns; ⟨m, hn.at' fun o e => k _ F.loc o e⟩
    cell := fun y cc e => let ⟨h1, ⟨v, h2⟩, h3⟩ := F.cell y cc e; ⟨h1, ⟨v, cellAt h2 fun o e => k _ h1 o e⟩, h3⟩ }
theorem Vr.go {fm₀ : List Addr} (V : Vr sc env fm ρ σ h) (F : Fm kd sc env fm₀ h) (k : ∀ a ∈ fm₀, ∀ o, h.get? a = some o → h'.get? a = some o) (g : Go (fm ++ ρ) (fm' ++ ρ') h h') (p : ∀ (i : Nat) (a : Addr), ρ[i]? = some a → ρ'[i]? = some a) : Vr sc env fm' ρ' σ h' := by
  intro q hq d hd
  obtain ⟨v, hv, l⟩ := V q hq d hd
  refine ⟨v, ?_, g.lay p l⟩
  rcases hv with ⟨k1, m, hn, hm⟩ | ⟨k1, cc, hc, hv⟩
  · exact .inl ⟨k1, m, hn.at' fun o e => k _ F.loc o e, hm⟩
  · exact .inr ⟨k1, cc, hc, cellAt hv fun o e => k _ (F.cell _ _ hc).1 o e⟩
theorem FlAt.go {P P' : Addr → Obj → Prop} {f : Flow} {fl : Fl} (x : FlAt P ρ f fl) (hP : ∀ a o, P a o → P' a o) (p : ∀ (i : Nat) (a : Addr), ρ[i]? = some a → ρ'[i]? = some a) : FlAt P' ρ' f fl := by
  cases fl with
  | next => exact x
  | brk => exact x
  | ret d => obtain ⟨v, e, l⟩ := x; exact ⟨v, e, l.mono hP p⟩
theorem Own.weak (O : Own env fm own) (hs : ∀ a ∈ fm, a ∈ fm') : Own env fm' own := ⟨O.loc, O.cell, fun a h => hs a (O.sub a h)⟩
theorem mem_w (I : Addr) : ∀ a ∈ fm, a ∈ I :: fm := fun a h => List.mem_cons_of_mem _ h
theorem Wf.weak (W : Wf c fm' ρ st s) (hs : ∀ a ∈ fm, a ∈ fm') : Wf c fm ρ st s :=
  W.go ⟨s.heap, s.toks, rfl⟩ ((Go.refl _ _).sub fun a h => by
    rcases List.mem_append.mp h with h | h
    · exact List.mem_append_left _ (hs a h)
    · exact List.mem_append_right _ h) (fun _ _ _ e => e) (fun a ha => W.alive a (.inl (hs a ha))) fun a ha h => W.apart a ha (hs a h)
theorem Wf.fresh (W : Wf c fm ρ st s) {I : Addr} (h : s.heap.get? I = none) : I ∉ fm ++ ρ := fun hm => by
  obtain ⟨o, e⟩ := W.alive I (List.mem_append.mp hm)
  rw [h] at e; cases e
theorem Wf.add (W : Wf c fm ρ st s) {I : Addr} {o : Obj} (h : s.heap.get? I = none) (hs : ∃ h tk, s' = { s with heap := h, toks := tk }) (k : ∀ b o, b ≠ I → s.heap.get? b = some o → s'.heap.get? b = some o) (e : s'.heap.get? I = some o) :
    Wf c (I :: fm) ρ st s' ∧ Go (fm ++ ρ) (I :: fm ++ ρ) s.heap s'.heap := by
  have k' : ∀ b o, s.heap.get? b = some o → s'.heap.get? b = some o := fun b o e => k b o (fun q => by rw [q, h] at e; cases e) e
  have g : Go (fm ++ ρ) (I :: fm ++ ρ) s.heap s'.heap := (⟨fun b o _ e => k' b o e, fun _ h n => absurd h n⟩ : Go (fm ++ ρ) (fm ++ ρ) s.heap s'.heap).add h
  refine ⟨W.go hs g (fun a _ o e => k' a o e) (fun a ha => ?_) (fun a ha hm => ?_), g⟩
  · rcases List.mem_cons.mp ha with rfl | ha
    · exact ⟨o, e⟩
    · obtain ⟨o, q⟩ := W.alive a (.inl ha)
      exact ⟨o, k' a o q⟩
  · rcases List.mem_cons.mp hm with rfl | hm
    · exact W.fresh h (List.mem_append_right _ ha)
    · exact W.apart a ha hm

theorem rp2 {β γ : Type} {P : β → γ → Prop} {x : β × γ} {b : β} {c : γ} (h : some x = some (b, c)) (k : P b c) : P x.1 x.2 := by rw [Option.some.inj h]; exact k
theorem rp3 {β γ δ : Type} {P : β → γ → δ → Prop} {x : β × γ × δ} {b : β} {c : γ} {d : δ} (h : some x = some (b, c, d)) (k : P b c d) : P x.1 x.2.1 x.2.2 := by rw [Option.some.inj h]; exact k
noncomputable def XK (c : Cx) (kd : Str → Option NameKind) (sc : List (Str × Nat)) (env : Env) (fm own ρ : List Addr) (s : Shared) (Q : Flow → Shared → Prop) (fl : Fl) (σ' : Vars) (st' : Store) : Prop :=
  ∀ f s' ρ', Wf c fm ρ' st' s' → Adv (own ++ ρ) (own ++ ρ') s s' → Fm kd sc env fm s'.heap → Vr sc env fm ρ' σ' s'.heap → FlAt (Out (fm ++ ρ') s'.heap) ρ' f fl → Q f s'
theorem wp_up {α : Type} {M : Model} {A : Around} {p : Sem α} {Q : α → Shared → Prop} {E : Value → Shared → Prop} {s : Shared} (h : wpAny M A p Q (fun _ _ => False) s) : wpAny M A p Q E s := wpAny_mono h (fun _ _ q => q) fun _ _ q => q.elim
theorem none_of {hs : ∃ h tk, s' = { s with heap := h, toks := tk }} : True := trivial

theorem x_for {tg : Tg} {te : Expr} {e : Expr} {b : List Stmt} {src : Store → Nat → Option (Option D)} {fl : Fl} {N : Nat} {bodyF : Vars → Store → Option (Fl × Vars × Store)} (R : Rm n A)
    (ht : TgE kd sc tg te) (hf : ∀ env x, foldedSetIterable e env x = pure x)
    (h : EvE c A kd sc e σ st d st₁) (hi : srcOf tg d = some src) (hg : forGo bodyF src tg N 0 σ st₁ = some (fl, σ', st'))
    (hb : ∀ σ st fl σ' st', bodyF σ st = some (fl, σ', st') → ExL c A kd sc b σ st fl σ' st') : ExS c A kd sc (.For te e b [] pos) σ st fl σ' st' := by
  intro env fm own ρ s F O W V Q hQ
  replace hQ : XK c kd sc env fm own ρ s Q fl σ' st' := hQ
  have h00 : ∃ o, src st₁ 0 = some o := by
    cases N with
    | zero => cases hg
    | succ N => obtain ⟨o, e, _⟩ := Option.bind_eq_some_iff.mp hg; exact ⟨o, e⟩
  refine wpAny_For (h env fm ρ s F W V _ fun v s1 ρ1 W1 A1 l => iter_okS R W1 l hi h00 fun o St It ho hst => ?_) (hf env)
  have F1 := F.adv W A1
  have V1 := V.adv F W A1
  generalize hI : s1.heap.objs.size = I at *
  have hI0 : s1.heap.get? I = none := hI ▸ size_none _
  obtain ⟨W2, g2⟩ := W1.add (s' := { s1 with heap := s1.heap.push o }) hI0 ⟨_, s1.toks, rfl⟩ (fun b o' _ e => Heap.get?_push_of_some _ e) (hI ▸ Heap.get?_push_size _ ho)
  have k2 : ∀ b o', s1.heap.get? b = some o' → (s1.heap.push o).get? b = some o' := fun b o' e => Heap.get?_push_of_some _ e
  have hIf : I ∉ fm := fun q => W1.fresh hI0 (List.mem_append_left _ q)
  have neI : ∀ b o', s1.heap.get? b = some o' → b ≠ I := fun b o' e q => by rw [q, hI0] at e; cases e
  refine codeAny_forLoop_any (fun k s' => ∀ P : Prop, (∀ j ρi σi sti, St j s'.heap → Wf c (I :: fm) ρi sti s' → Adv (own ++ ρ1) (own ++ ρi) s1 s' → Fm kd sc env fm s'.heap →
    Vr sc env (I :: fm) ρi σi s'.heap → forGo bodyF src tg k j σi sti = some (fl, σ', st') → P) → P) ?_ N
    (fun P k => k 0 ρ1 σ st₁ hst W2 ⟨fun b o' _ e => k2 b o' e, fun _ h n => absurd h n, fun _ _ e => e⟩ (F1.keep fun a _ o' e => k2 a o' e) (V1.go F1 (fun a _ o' e => k2 a o' e) g2 (fun _ _ e => e)) hg)
  clear hg W2 g2 k2 h00
  refine fun k s' hI => hI _ fun j ρi σi sti hSt Wi Ai Fi Vi hgo => ?_
  clear hI
  have gi : Go (fm ++ ρ1) (I :: fm ++ ρi) s1.heap s'.heap := (Ai.wide O.sub).add hI0
  cases k with
  | zero => cases hgo
  | succ k =>
  refine bd_el (show (src sti j).bind _ = some (fl, σ', st') from hgo) fun oo hsrc hgo => ?_
  refine It.step j (I :: fm) ρi sti s' oo _ _ Wi (.head _) gi Ai.down hSt hsrc ?_
  cases oo with
  | some d' =>
    intro v' h1 tk1 ld hSt1 hk1
    obtain ⟨W3, g3⟩ := Wi.chg (s' := { s' with heap := h1, toks := tk1 }) (a := I) (.head _) ⟨_, _, rfl⟩ hk1 (It.alive _ _ hSt1)
    have F3 : Fm kd sc env fm h1 := Fi.keep fun a ha o' e => hk1 a o' (fun q => hIf (q ▸ ha)) e
    have V3 : Vr sc env (I :: fm) ρi σi h1 := Vi.go Fi (fun a ha o' e => hk1 a o' (fun q => hIf (q ▸ ha)) e) g3 fun _ _ e => e
    have A3 : Adv (own ++ ρ1) (own ++ ρi) s1 { s' with heap := h1, toks := tk1 } := ⟨fun b o' hb e => hk1 b o' (neI b o' e) (Ai.keep b o' hb e), Ai.news, Ai.pre⟩
    have l3 : Lay (Out (I :: fm ++ ρi) h1) ρi v' d' := g3.lay (fun _ _ e => e) ld
    have O' := O.weak (mem_w I)
    refine bd_el (show (bindT tg σi d').bind _ = some (fl, σ', st') from hgo) fun σ2 hbind hgo => bd_el (show (bodyF σ2 sti).bind _ = some (fl, σ', st') from hgo) fun r hbody hgo => ?_
    refine nng fun nG => ?_
    obtain ⟨fl', σ'', st''⟩ := r
    refine nG ?_
    clear nG
    refine wp_up (tg_lets (s := { s' with heap := h1, toks := tk1 }) (E := fun _ _ => False) (Q := fun _ s₁' => wpAny _ _ _ _ _ s₁') It ht hbind l3 hSt1 (wp_up (tg_assign R ht hbind (F3.weak (mem_w I)) O'.all (fun _ _ => trivial) W3 V3 l3 fun s4 W4 A4 F4 V4 => ?_)))
    have gI : ∀ {ρj : List Addr} {s5 : Shared}, Adv (own ++ ρi) (own ++ ρj) { s' with heap := h1, toks := tk1 } s5 → St (j + 1) s5.heap := fun {ρj s5} A5 => by
      have g5 := (gi.trans g3).trans (A5.wide O'.sub)
      refine It.frame _ _ _ hSt1 (fun o' e => A5.keep _ o' (fun q => ?_) e) (fun b o' x => ((gi.trans g3).out x).1) fun b o' x => (g5.out x).1
      rcases List.mem_append.mp q with q | q
      · exact hIf (O.sub _ q)
      · exact Wi.apart I q (.head _)
    refine wp_up (hb _ _ _ _ _ hbody env (I :: fm) own ρi s4 F4 O' W4 V4 _ fun f s5 ρ5 W5 A5 F5 V5 hf => ?_)
    have gw : Go (I :: fm ++ ρ5) (fm ++ ρ5) s5.heap s5.heap := (Go.refl _ _).sub fun a h => List.mem_cons_of_mem _ h
    cases fl' with
    | next =>
      obtain rfl : f = .next := hf
      exact ⟨k, Nat.lt_succ_self k, fun P kk => kk (j + 1) ρ5 σ'' st'' (gI (A4.trans A5)) W5 (A3.trans (A4.trans A5)) (F.back F5) V5 hgo⟩
    | brk =>
      obtain rfl : f = .brk := hf
      exact rp3 (P := XK c kd sc env fm own ρ s Q) (x := (.next, σ'', st'')) hgo hQ _ s5 ρ5 (W5.weak (mem_w I)) ((A1.up own).trans (A3.trans (A4.trans A5))) (F.back F5) (V5.go F5 (fun _ _ _ e => e) gw fun _ _ e => e) rfl
    | ret d5 =>
      obtain ⟨u, rfl, lu⟩ := hf
      exact rp3 (P := XK c kd sc env fm own ρ s Q) (x := (.ret d5, σ'', st'')) hgo hQ _ s5 ρ5 (W5.weak (mem_w I)) ((A1.up own).trans (A3.trans (A4.trans A5))) (F.back F5) (V5.go F5 (fun _ _ _ e => e) gw fun _ _ e => e) ⟨u, rfl, gw.lay (fun _ _ e => e) lu⟩
  | none =>
    intro h1 tk1 hk1
    refine wpAny_execs_nil ?_
    replace hQ := rp3 (P := XK c kd sc env fm own ρ s Q) (x := (.next, σi, sti)) hgo hQ
    clear hgo
    have gd : Go (I :: fm ++ ρi) (fm ++ ρi) s'.heap h1 := ⟨fun b o' hb e => hk1 b o' (fun q => hb (q ▸ .head _)) e, fun a h n => absurd (List.mem_cons_of_mem _ h) n⟩
    have kf : ∀ a ∈ fm, ∀ o', s'.heap.get? a = some o' → h1.get? a = some o' := fun a ha o' e => hk1 a o' (fun q => hIf (q ▸ ha)) e
    have W6 : Wf c fm ρi sti { s' with heap := h1, toks := tk1 } := Wi.go ⟨_, _, rfl⟩ gd (fun a ha o' e => hk1 a o' (fun q => Wi.apart a ha (q ▸ .head _)) e) (fun a ha => let ⟨o', e⟩ := Wi.alive a (.inl (mem_w I a ha)); ⟨o', kf a ha o' e⟩)
      fun a ha q => Wi.apart a ha (mem_w I a q)
    exact hQ .next _ ρi W6 ((A1.up own).trans ⟨fun b o' hb e => hk1 b o' (neI b o' e) (Ai.keep b o' hb e), Ai.news, Ai.pre⟩) (Fi.keep kf) (Vi.go Fi kf gd fun _ _ e => e) rfl

theorem x_while {F₀ : Nat → Option PF} {cp : PE} {bp : List PS} {t : Expr} {b : List Stmt} {N : Nat} {fl : Fl} (hw : whl F₀ N σ st cp bp = some (fl, σ', st'))
    (ht : ∀ k, k < N → ∀ σ st r st', evT F₀ k σ st cp = some (r, st') → EvT c A kd sc t σ st r st') (hb : ∀ k, k < N → ∀ σ st fl σ' st', run F₀ k σ st bp = some (fl, σ', st') → ExL c A kd sc b σ st fl σ' st') : ExS c A kd sc (.While t b [] pos) σ st fl σ' st' := by
  intro env fm own ρ s F O W V Q hQ
  replace hQ : XK c kd sc env fm own ρ s Q fl σ' st' := hQ
  refine wpAny_While (codeAny_whileLoop (fun k s' => ∀ P : Prop, (∀ ρi σi sti, k ≤ N → Wf c fm ρi sti s' → Adv (own ++ ρ) (own ++ ρi) s s' → Fm kd sc env fm s'.heap → Vr sc env fm ρi σi s'.heap → whl F₀ k σi sti cp bp = some (fl, σ', st') → P) → P) ?_ N fun P k => k ρ σ st (Nat.le_refl _) W (Adv.refl _ _) F V hw)
  clear W F V hw
  refine fun k s' hI => hI _ fun ρi σi sti hk Wi Ai Fi Vi hgo => ?_
  clear hI
  cases k with
  | zero => exact bad hgo
  | succ k =>
    refine bd_el hgo fun r hr hgo => ?_
    obtain ⟨r, st2⟩ := r
    refine wp_up (ht k hk _ _ _ _ hr env fm ρi s' Fi Wi Vi _ fun s2 ρ2 W2 A2 => ?_)
    have F2 := Fi.adv Wi A2
    have V2 := Vi.adv Fi Wi A2
    cases r with
    | true =>
      refine bd_el hgo fun q hr3 hgo => ?_
      refine nng fun nG => ?_
      obtain ⟨f3, σ3, st3⟩ := q
      refine nG ?_
      clear nG
      refine wp_up (hb k hk _ _ _ _ _ hr3 env fm own ρ2 s2 F2 O W2 V2 _ fun f s3 ρ3 W3 A3 F3 V3 hf => ?_)
      have AA := Ai.trans ((A2.up own).trans A3)
      cases f3 with
      | next => obtain rfl : f = .next := hf; exact ⟨k, Nat.lt_succ_self k, fun P kk => kk ρ3 σ3 st3 (Nat.le_of_lt hk) W3 AA F3 V3 hgo⟩
      | brk => obtain rfl : f = .brk := hf; exact rp3 (P := XK c kd sc env fm own ρ s Q) (x := (.next, σ3, st3)) hgo hQ _ s3 ρ3 W3 AA F3 V3 rfl
      | ret d3 => obtain ⟨u, rfl, lu⟩ := hf; exact rp3 (P := XK c kd sc env fm own ρ s Q) (x := (.ret d3, σ3, st3)) hgo hQ _ s3 ρ3 W3 AA F3 V3 ⟨u, rfl, lu⟩
    | false =>
      exact wpAny_execs_nil (rp3 (P := XK c kd sc env fm own ρ s Q) (x := (.next, σi, st2)) hgo hQ _ s2 ρ2 W2 (Ai.trans (A2.up own)) F2 V2 rfl)

theorem x_asg {X : Str} {p : Pos} {i : Nat} {e : Expr} (hx : (X, i) ∈ sc) (hk : kd X = some .local ∨ kd X = some .cell) (hsw : ∀ env : Env, env.kindOf = kd → env.scope.kind = .function → swapsWith e (some (.Name X p)) pos.line env = pure false)
    (h : EvE c A kd sc e σ st d st₁) : ExS c A kd sc (.Assign [.Name X p] e pos) σ st .next (σ.set i d) st₁ := by
  intro env fm own ρ s F O W V Q hQ
  refine wpAny_Assign_Name (h env fm ρ s F W V _ fun v s1 ρ1 W1 A1 l => ?_) (hsw env F.kdE F.kind)
  exact store_ok (F.adv W A1) O W1 (V.adv F W A1) hx hk l fun s2 W2 A2 F2 V2 => hQ .next s2 ρ1 W2 ((A1.up own).trans A2) F2 V2 rfl
end
end Mine.Internal
end
section
open PySem PySem.W PySem.Calls PyProof.Rows PySem.Builtin
set_option Elab.async false
set_option linter.unusedVariables false
namespace Mine.Internal

noncomputable def clOf (env : Env) : List (Str × NameKind) → List (Str × Addr) → List (Str × Addr)
  | [], acc => acc
  | (n, k) :: r, acc => if k == .free then clOf env r ((n, (env.cells.lookup n).getD 0) :: acc) else clOf env r acc
theorem clOf_loop (env : Env) (f : Str × NameKind → List (Str × Addr) → Sem (ForInStep (List (Str × Addr))))
    (hf : ∀ n k cs, f (n, k) cs = if k == .free then (do let a ← cellOf env n; pure (.yield ((n, a) :: cs))) else pure (.yield cs)) :
    ∀ (names : List (Str × NameKind)) (acc : List (Str × Addr)), (∀ y ∈ names, y.2 = .free → ∃ cc, env.cells.lookup y.1 = some cc) → forIn names acc f = pure (clOf env names acc)
  | [], acc, _ => by rw [List.forIn_nil]; rfl
  | (n, k) :: r, acc, h => by
    have ih := clOf_loop env f hf r
    rw [List.forIn_cons, hf]
    unfold clOf
    by_cases hk : (k == NameKind.free) = true
    · rw [if_pos hk, if_pos hk]
      obtain ⟨cc, e⟩ := h (n, k) (.head _) (beq_iff_eq.mp hk)
      have : cellOf env n = pure cc := by unfold cellOf; rw [e]
      rw [this, e]
      exact ih _ fun y hy => h y (List.mem_cons_of_mem _ hy)
    · rw [if_neg hk, if_neg hk]
      exact ih _ fun y hy => h y (List.mem_cons_of_mem _ hy)
theorem closure_is {scope : Scope} {env : Env} (h : ∀ y ∈ scope.names, y.2 = .free → ∃ cc, env.cells.lookup y.1 = some cc) : closureFor scope env = pure (clOf env scope.names []) := by
  simp only [closureFor]
  rw [clOf_loop env _ (fun n k cs => by cases hkc : k == NameKind.free <;> simp [hkc]) scope.names [] h]
  rfl
theorem clOf_sound (env : Env) : ∀ (names : List (Str × NameKind)) (acc : List (Str × Addr)), (∀ y ∈ names, y.2 = .free → ∃ cc, env.cells.lookup y.1 = some cc) →
    (∀ y cc, acc.lookup y = some cc → env.cells.lookup y = some cc) → ∀ y cc, (clOf env names acc).lookup y = some cc → env.cells.lookup y = some cc
  | [], acc, _, ha, y, cc, e => ha y cc e
  | (n, k) :: r, acc, h, ha, y, cc, e => by
    unfold clOf at e
    have h' : ∀ y ∈ r, y.2 = .free → ∃ cc, env.cells.lookup y.1 = some cc := fun y hy => h y (List.mem_cons_of_mem _ hy)
    split at e
    · rename_i hk
      obtain ⟨c2, e2⟩ := h (n, k) (.head _) (beq_iff_eq.mp hk)
      refine clOf_sound env r _ h' (fun y cc q => ?_) y cc e
      rw [e2] at q
      simp only [List.lookup_cons] at q
      split at q
      · rename_i hb; cases q; rw [beq_iff_eq.mp hb]; exact e2
      · exact ha y cc q
    · exact clOf_sound env r acc h' ha y cc e
theorem clOf_has (env : Env) : ∀ (names : List (Str × NameKind)) (acc : List (Str × Addr)) (y : Str), ((y, NameKind.free) ∈ names ∨ (acc.lookup y).isSome = true) → ((clOf env names acc).lookup y).isSome = true
  | [], acc, y, h => by
    rcases h with h | h
    · cases h
    · exact h
  | (n, k) :: r, acc, y, h => by
    unfold clOf
    split
    · refine clOf_has env r _ y ?_
      rcases h with h | h
      · rcases List.mem_cons.mp h with e | h
        · cases e; right; simp [List.lookup_cons]
        · exact .inl h
      · right
        simp only [List.lookup_cons]
        split
        · rfl
        · exact h
    · rename_i hk
      refine clOf_has env r _ y ?_
      rcases h with h | h
      · rcases List.mem_cons.mp h with e | h
        · cases e; exact absurd rfl hk
        · exact .inl h
      · exact .inr h

theorem clOf_free (env : Env) : ∀ (names : List (Str × NameKind)) (acc : List (Str × Addr)) (y : Str) (cc : Addr), (clOf env names acc).lookup y = some cc → (y, NameKind.free) ∈ names ∨ acc.lookup y = some cc
  | [], acc, y, cc, e => .inr e
  | (n, k) :: r, acc, y, cc, e => by
    unfold clOf at e
    split at e
    · rename_i hk
      rcases clOf_free env r _ y cc e with h | h
      · exact .inl (List.mem_cons_of_mem _ h)
      · rw [List.lookup_cons] at h
        split at h
        · rename_i hb
          have : y = n := beq_iff_eq.mp hb
          have hk2 : k = .free := beq_iff_eq.mp hk
          subst this; subst hk2
          exact .inl (.head _)
        · exact .inr h
    · exact (clOf_free env r acc y cc e).imp (List.mem_cons_of_mem _) id
noncomputable def relK (kd : Str → Option NameKind) (names : List (Str × NameKind)) (x : Str) : Option NameKind :=
  (names.map fun (n, k) => if (k == .free && kd n == some .cell) = true then (n, .cell) else (n, k)).lookup x

noncomputable def tgI : Tg → List Nat
  | .one i => [i]
  | .tup is => is
structure CC (kd : Str → Option NameKind) (sc sc' : List (Str × Nat)) (scope : Scope) (tv : List (Str × Nat)) (te : Expr) (tg : Tg) : Prop where
  kind : scope.kind = .function
  cells : (∀ y ∈ scope.names, y.2 ≠ .cell) ∨ ∃ X, scope.names.filter (fun y => y.2 == .cell) = [(X, .cell)]
  names : ∀ y ∈ scope.names, y.2 = .local → scope.names.lookup y.1 = some .local
  free : ∀ y ∈ scope.names, y.2 = .free → ∃ p ∈ sc, p.1 = y.1 ∧ (kd y.1 = some .cell ∨ kd y.1 = some .free)
  tgt : TgE (relK kd scope.names) sc' tg te
  tn : ∀ x ∈ tgN te, x ∈ tv.map (·.1)
  tnf : ∀ q ∈ tv, (q.1, NameKind.free) ∉ scope.names
  tvl : ∀ q ∈ tv, relK kd scope.names q.1 = some .local ∨ (relK kd scope.names q.1 = some .cell ∧ (q.1, NameKind.cell) ∈ scope.names)
  sc' : ∀ p ∈ sc', p ∈ tv ∨ (p ∈ sc ∧ (∀ q ∈ tv, p.2 ≠ q.2 ∧ p.1 ≠ q.1) ∧ (p.1, NameKind.free) ∈ scope.names ∧ (relK kd scope.names p.1 = some .cell ∨ relK kd scope.names p.1 = some .free) ∧ (kd p.1 = some .cell ∨ kd p.1 = some .free))
  t1 : ∀ p ∈ tv, ∀ q ∈ tv, p.2 = q.2 → p.1 = q.1
  t2 : ∀ p ∈ tv, ∀ q ∈ tv, p.1 = q.1 → p.2 = q.2
  ix : ∀ q ∈ tv, q.2 ∈ tgI tg
  fc : ∀ y, (y, NameKind.free) ∈ scope.names → (y, NameKind.cell) ∉ scope.names

noncomputable def Vars.del (is : List Nat) (σ : Vars) : Vars := σ.filter fun p => !is.contains p.1
theorem Vars.get_del (is : List Nat) : ∀ (σ : Vars) (i : Nat), (σ.del is).get i = if i ∈ is then none else σ.get i
  | [], i => by simp [Vars.del, Vars.get]
  | (j, e) :: r, i => by
    have ih := Vars.get_del is r i
    unfold Vars.del at ih ⊢
    rw [List.filter_cons]
    by_cases hj : j ∈ is
    · rw [if_neg (by simpa using hj), ih]
      by_cases hi : i ∈ is
      · rw [if_pos hi, if_pos hi]
      · rw [if_neg hi, if_neg hi]
        show Vars.get r i = (match Nat.beq j i with | true => some e | false => Vars.get r i)
        rw [beq_ne (fun q => hi (by rw [← q]; exact hj))]
    · rw [if_pos (by simpa using hj)]
      show (match Nat.beq j i with | true => some e | false => Vars.get (r.filter fun p => !is.contains p.1) i) = _
      rw [ih]
      by_cases hji : j = i
      · subst hji
        show (match Nat.beq j j with | true => some e | false => _) = if j ∈ is then none else (match Nat.beq j j with | true => some e | false => Vars.get r j)
        rw [beq_me, if_neg hj, if_neg hj]
      · rw [beq_ne hji]
        show _ = if i ∈ is then none else (match Nat.beq j i with | true => some e | false => Vars.get r i)
        rw [beq_ne hji]
theorem setAll_agree : ∀ (is : List Nat) (ds : List D) (σ τ σ' : Vars), (∀ i, i ∉ is → σ.get i = τ.get i) → setAll is ds σ = some σ' → ∃ τ', setAll is ds τ = some τ' ∧ ∀ i, τ'.get i = σ'.get i
  | [], ds, σ, τ, σ', ha, e => by
    cases ds with
    | cons => cases e
    | nil => cases e; exact ⟨τ, rfl, fun i => (ha i (by simp)).symm⟩
  | i :: is, ds, σ, τ, σ', ha, e => by
    cases ds with
    | nil => cases e
    | cons d ds =>
      refine setAll_agree is ds (σ.set i d) (τ.set i d) σ' (fun j hj => ?_) e
      rw [Vars.get_set, Vars.get_set]
      by_cases h : i = j
      · rw [if_pos h, if_pos h]
      · rw [if_neg h, if_neg h]
        exact ha j (by simp only [List.mem_cons, not_or]; exact ⟨Ne.symm h, hj⟩)
theorem bindT_agree {tg : Tg} {σ σ' : Vars} {d : D} (h : bindT tg σ d = some σ') : ∃ τ', bindT tg (σ.del (tgI tg)) d = some τ' ∧ ∀ i, τ'.get i = σ'.get i := by
  unfold bindT at h ⊢
  cases tg with
  | one x =>
    cases h
    refine ⟨_, rfl, fun i => ?_⟩
    rw [Vars.get_set, Vars.get_set, Vars.get_del]
    by_cases hx : x = i
    · rw [if_pos hx, if_pos hx]
    · rw [if_neg hx, if_neg hx, if_neg (by simp [tgI]; exact fun q => hx q.symm)]
  | tup xs =>
    refine nng fun nG => ?_
    obtain ⟨ds, h1, h⟩ := bd_ok h
    obtain ⟨τ, e1, e2⟩ := setAll_agree xs _ σ _ σ' (fun i hi => by rw [Vars.get_del, if_neg (by exact hi)]) h
    refine nG ?_
    clear nG
    exact ⟨τ, by simp only [h1]; exact e1, e2⟩

section
variable {c : Cx} {A : Around} {kd : Str → Option NameKind} {sc sc' : List (Str × Nat)} {σ σ' σ₁ σ₂ : Vars} {st st₁ st₂ st₃ st' : Store} {x y d : D} {n : Nat} {pos : Pos} {env : Env} {fm fm' own ρ ρ' : List Addr} {s s' : Shared} {h h' : Heap} {scope : Scope} {tv : List (Str × Nat)} {te : Expr} {tg : Tg}

theorem relabel_kd (F : Fm kd sc env fm h) : (fun x => (relabel scope env).names.lookup x) = relK kd scope.names := by
  funext x
  unfold relabel relK
  rw [← F.kdE, F.kind]
  simp

structure CE (env : Env) (scope : Scope) (fm cs' : List Addr) (cs : List (Str × Addr)) : Prop where
  sound : ∀ y cc, cs.lookup y = some cc → ((y, NameKind.free) ∈ scope.names ∧ env.cells.lookup y = some cc ∧ cc ∈ fm) ∨ (cc ∈ cs' ∧ (y, NameKind.cell) ∈ scope.names)
  has : ∀ y, (y, NameKind.free) ∈ scope.names → (y, NameKind.cell) ∉ scope.names → ∃ cc, cs.lookup y = some cc
  hasC : ∀ y, (y, NameKind.cell) ∈ scope.names → ∃ cc, cs.lookup y = some cc
  inj : ∀ y y' cc, cc ∈ cs' → cs.lookup y = some cc → cs.lookup y' = some cc → y = y'
  fresh : ∀ cc ∈ cs', cc ∉ fm
  back : ∀ cc ∈ cs', ∃ y, cs.lookup y = some cc

theorem cells_one : ∀ (names : List (Str × NameKind)) (X : Str) (n : Nat) (acc : List (Str × Addr)) (h : Heap), names.filter (fun y => y.2 == .cell) = [(X, .cell)] → cellsFrom n names acc = (X, n) :: acc ∧ pushCells h names = h.push { cls := .type "cell", data := .cell none }
  | [], X, n, acc, h, e => by simp at e
  | (y, k) :: r, X, n, acc, h, e => by
    have none_of : ∀ (r : List (Str × NameKind)) (n : Nat) (acc : List (Str × Addr)) (h : Heap), r.filter (fun y => y.2 == .cell) = [] → cellsFrom n r acc = acc ∧ pushCells h r = h := by
      intro r
      induction r with
      | nil => intro n acc h _; exact ⟨rfl, rfl⟩
      | cons z r ih =>
        intro n acc h e
        obtain ⟨y, k⟩ := z
        rw [List.filter_cons] at e
        by_cases hk : (k == NameKind.cell) = true
        · rw [if_pos hk] at e; cases e
        · rw [if_neg hk] at e
          unfold cellsFrom pushCells
          rw [if_neg hk, if_neg hk]
          exact ih n acc h e
    rw [List.filter_cons] at e
    by_cases hk : (k == NameKind.cell) = true
    · rw [if_pos hk] at e
      injection e with e1 e2
      cases e1
      unfold cellsFrom pushCells
      rw [if_pos hk, if_pos hk]
      exact none_of r _ _ _ e2
    · rw [if_neg hk] at e
      unfold cellsFrom pushCells
      rw [if_neg hk, if_neg hk]
      exact cells_one r X n acc h e

theorem new_env {Q : Env → Shared → Prop} {E : Value → Shared → Prop} (X' : CC kd sc sc' scope tv te tg) (F : Fm kd sc env fm s.heap) (al : ∀ a ∈ fm, ∃ o, s.heap.get? a = some o) (hfree : ∀ y ∈ scope.names, y.2 = .free → ∃ cc, env.cells.lookup y.1 = some cc)
    (hQ : ∀ h₁ tk cs cs', h₁.Ns s.heap.objs.size (fun _ => none) → (∀ b o, s.heap.get? b = some o → h₁.get? b = some o) → CE env scope fm cs' cs → (∀ cc ∈ cs', s.heap.get? cc = none ∧ cc ≠ s.heap.objs.size ∧ h₁.IsCell cc none) →
      Q (newEnv scope s.heap.objs.size env.globals cs env.qual none .none (some env) builtinsNs) { s with heap := h₁, toks := tk }) :
    wpAny (model c.prog c.w) A (newFunctionEnv scope env.globals (clOf env scope.names []) [] env.qual none .none (some env)) Q E s := by
  have alive : ∀ {y cc}, env.cells.lookup y = some cc → cc ∈ fm ∧ cc < s.heap.objs.size := fun {y cc} e => by
    obtain ⟨h1, ⟨v, o, ho, _⟩, _⟩ := F.cell y cc e
    exact ⟨h1, Heap.lt_size ho⟩
  have snd := clOf_sound env scope.names [] hfree (fun _ _ e => nomatch e)
  have fre : ∀ y cc, (clOf env scope.names []).lookup y = some cc → (y, NameKind.free) ∈ scope.names := fun y cc e => (clOf_free env _ _ y cc e).resolve_right fun q => nomatch q
  rcases X'.cells with hc | ⟨X, hX⟩
  · refine wpAny_newFunctionEnv hc (by intro y hy; cases hy) (fun h₁ hns hsb => ?_) X'.kind
    refine hQ h₁ _ _ [] hns (fun b o e => hsb.extBut b o (Nat.ne_of_lt (Heap.lt_size e)) (Heap.get?_push_of_some _ e)) ⟨fun y cc e => .inl ⟨fre y cc e, snd y cc e, (alive (snd y cc e)).1⟩, fun y hy _ => ?_, fun y hy => absurd rfl (hc _ hy), fun y y' cc q => (nomatch q), fun cc q => (nomatch q), fun cc q => (nomatch q)⟩ fun cc q => (nomatch q)
    exact Option.isSome_iff_exists.mp (clOf_has env _ _ y (.inl hy))
  · have hXm : (X, NameKind.cell) ∈ scope.names := by
      have : (X, NameKind.cell) ∈ scope.names.filter (fun y => y.2 == .cell) := by rw [hX]; exact .head _
      exact (List.mem_filter.mp this).1
    have only : ∀ y, (y, NameKind.cell) ∈ scope.names → y = X := fun y hy => by
      have : (y, NameKind.cell) ∈ scope.names.filter (fun y => y.2 == .cell) := List.mem_filter.mpr ⟨hy, rfl⟩
      rw [hX] at this
      have := List.mem_singleton.mp this
      cases this; rfl
    simp only [newFunctionEnv, Option.isSome_some, if_true]
    refine wpAny_bind (wpAny_alloc ?_)
    refine wpAny_bind (wpAny_layCells _ (fun name kind cells => by cases hkc : kind == NameKind.cell <;> simp [hkc]) _ _ _ _ ?_)
    have hsz : (s.heap.push { cls := .type "dict", data := .dict #[] }).objs.size = s.heap.objs.size + 1 := Heap.size_push ..
    obtain ⟨e1, e2⟩ := cells_one scope.names X (s.heap.push { cls := .type "dict", data := .dict #[] }).objs.size (clOf env scope.names []) (s.heap.push { cls := .type "dict", data := .dict #[] }) hX
    show wpAny _ _ _ _ _ { s with heap := pushCells (s.heap.push { cls := .type "dict", data := .dict #[] }) scope.names }
    have e1' : cellsFrom ({ s with heap := s.heap.push { cls := .type "dict", data := .dict #[] } } : Shared).heap.objs.size scope.names (clOf env scope.names []) = (X, s.heap.objs.size + 1) :: clOf env scope.names [] := by rw [← hsz]; exact e1
    rw [e1', e2]
    rw [List.forIn_nil]
    refine wpAny_bind (wpAny_pure (wpAny_pure ?_))
    have lk : ∀ y, ((X, s.heap.objs.size + 1) :: clOf env scope.names []).lookup y = if y = X then some (s.heap.objs.size + 1) else (clOf env scope.names []).lookup y := fun y => by
      rw [List.lookup_cons]
      by_cases hy : y = X
      · subst hy; simp
      · rw [show (y == X) = false by simpa using hy, if_neg hy]
    refine hQ _ s.toks _ [s.heap.objs.size + 1] ((Heap.Ns.new s.heap (.type "dict")).keeps fun b o e => Heap.get?_push_of_some _ e) (fun b o e => Heap.get?_push_of_some _ (Heap.get?_push_of_some _ e)) ⟨fun y cc e => ?_, fun y hy hn => ?_, fun y hy => ?_, fun y y' cc q e e' => ?_, fun cc q => ?_, fun cc q => ⟨X, by rw [lk, if_pos rfl, List.mem_singleton.mp q]⟩⟩ fun cc q => ?_
    · rw [lk] at e
      split at e
      · rename_i hy; cases e; subst hy; exact .inr ⟨.head _, hXm⟩
      · exact .inl ⟨fre y cc e, snd y cc e, (alive (snd y cc e)).1⟩
    · rw [lk, if_neg (fun q => hn (by rw [q]; exact hXm))]
      exact Option.isSome_iff_exists.mp (clOf_has env _ _ y (.inl hy))
    · rw [lk, if_pos (only y hy)]; exact ⟨_, rfl⟩
    · have hc := List.mem_singleton.mp q
      subst hc
      have isX : ∀ z, ((X, s.heap.objs.size + 1) :: clOf env scope.names []).lookup z = some (s.heap.objs.size + 1) → z = X := fun z e => by
        rw [lk] at e
        split at e
        · rename_i hz; exact hz
        · exact absurd (alive (snd z _ e)).2 (Nat.not_lt.mpr (Nat.le_succ _))
      rw [isX y e, isX y' e']
    · have hc := List.mem_singleton.mp q
      subst hc
      intro hf
      obtain ⟨o, e⟩ := al _ hf
      exact absurd (Heap.lt_size e) (Nat.not_lt.mpr (Nat.le_succ _))
    · have hc := List.mem_singleton.mp q
      subst hc
      refine ⟨?_, Nat.succ_ne_self _, ⟨_, by rw [← hsz]; exact Heap.get?_push_size _ rfl, rfl⟩⟩
      cases e : s.heap.get? (s.heap.objs.size + 1) with
      | none => rfl
      | some o => exact absurd (Heap.lt_size e) (Nat.not_lt.mpr (Nat.le_succ _))

theorem comp_fm {C : Addr} {m : Str → Option Value} {cs : List (Str × Addr)} {cs' : List Addr} (X' : CC kd sc sc' scope tv te tg) (F : Fm kd sc env fm h) (E' : CE env scope fm cs' cs) (hC : C ∈ fm') (hs : ∀ a ∈ fm, a ∈ fm') (hn : h.Ns C m) (hCf : C ∉ fm)
    (hcs : ∀ cc ∈ cs', cc ∈ fm' ∧ (∃ v, h.IsCell cc v) ∧ cc ≠ C) : Fm (relK kd scope.names) sc' (compEnvC scope cs C env) fm' h := by
  refine ⟨relabel_kd F, hC, ⟨m, hn⟩, F.glob, F.blt, X'.kind, fun y cc e => ?_, fun y z cc e1 e2 => ?_, fun p hp => ?_, fun p hp q hq e => ?_, fun p hp q hq e => ?_⟩
  · rcases E'.sound _ _ e with ⟨_, e2, _⟩ | ⟨hc, _⟩
    · obtain ⟨h1, h2, h3⟩ := F.cell y cc e2
      exact ⟨hs _ h1, h2, fun q => hCf ((show cc = C from q) ▸ h1)⟩
    · exact hcs cc hc
  · rcases E'.sound _ _ e1 with ⟨_, q1, f1⟩ | ⟨hc, _⟩
    · rcases E'.sound _ _ e2 with ⟨_, q2, f2⟩ | ⟨hc, _⟩
      · exact F.inj y z cc q1 q2
      · exact absurd f1 (E'.fresh _ hc)
    · exact E'.inj y z cc hc e1 e2
  · rcases X'.sc' p hp with q | ⟨h1, _, h4, h5, _⟩
    · rcases X'.tvl p q with r | ⟨r1, r2⟩
      · exact .inl r
      · exact .inr ⟨.inl r1, E'.hasC _ r2⟩
    · by_cases hcell : (p.1, NameKind.cell) ∈ scope.names
      · exact .inr ⟨h5, E'.hasC _ hcell⟩
      · exact .inr ⟨h5, E'.has _ h4 hcell⟩
  · rcases X'.sc' p hp with a | a <;> rcases X'.sc' q hq with b | b
    · exact X'.t1 p a q b e
    · exact absurd e.symm (b.2.1 p a).1
    · exact absurd e (a.2.1 q b).1
    · exact F.one p a.1 q b.1 e
  · rcases X'.sc' p hp with a | a <;> rcases X'.sc' q hq with b | b
    · exact X'.t2 p a q b e
    · exact absurd e.symm (b.2.1 p a).2
    · exact absurd e (a.2.1 q b).2
    · exact F.two p a.1 q b.1 e
theorem comp_vr {C : Addr} {cs : List (Str × Addr)} {cs' : List Addr} (X' : CC kd sc sc' scope tv te tg) (F : Fm kd sc env fm h) (E' : CE env scope fm cs' cs) (V : Vr sc env fm' ρ σ h) (hfc : ∀ y, (y, NameKind.free) ∈ scope.names → (y, NameKind.cell) ∉ scope.names) : Vr sc' (compEnvC scope cs C env) fm' ρ (σ.del (tgI tg)) h := by
  intro p hp e he
  rw [Vars.get_del] at he
  split at he
  · cases he
  · rename_i hni
    rcases X'.sc' p hp with q | ⟨h1, _, h4, h5, h6⟩
    · exact absurd (X'.ix p q) hni
    · obtain ⟨u, hu, l⟩ := V p h1 e he
      refine ⟨u, .inr ⟨by rw [show (compEnvC scope cs C env).kindOf p.1 = relK kd scope.names p.1 from congrFun (relabel_kd F) p.1]; exact h5, ?_⟩, l⟩
      rcases hu with ⟨k, _⟩ | ⟨k, cc, hc, hv⟩
      · rw [F.kdE] at k; rcases h6 with q | q <;> rw [q] at k <;> cases k
      · obtain ⟨c2, e2⟩ := E'.has p.1 h4 (hfc _ h4)
        rcases E'.sound _ _ e2 with ⟨_, q, _⟩ | ⟨_, q⟩
        · rw [hc] at q; cases q
          exact ⟨cc, e2, hv⟩
        · exact absurd q (hfc _ h4)
theorem Vr.same {sc : List (Str × Nat)} {env : Env} {σ τ : Vars} (V : Vr sc env fm ρ σ h) (e : ∀ i, σ.get i = τ.get i) : Vr sc env fm ρ τ h := fun p hp d hd => V p hp d (by rw [e]; exact hd)
end
end Mine.Internal
end
section
open PySem PySem.W PySem.Calls PyProof.Rows PySem.Builtin
set_option Elab.async false
set_option linter.unusedVariables false
namespace Mine.Internal
section
variable {c : Cx} {A : Around} {kd : Str → Option NameKind} {sc sc' : List (Str × Nat)} {σ σ' σ₁ σ₂ : Vars} {st st₁ st₂ st₃ st' : Store} {x y d : D} {n : Nat} {pos : Pos} {env : Env} {fm fm' own ρ ρ' : List Addr} {s s' : Shared} {h h' : Heap} {scope : Scope} {tv : List (Str × Nat)} {te : Expr} {tg : Tg}

noncomputable def TestOk (c : Cx) (A : Around) (kd : Str → Option NameKind) (sc : List (Str × Nat)) (ifs : List Expr) (σ : Vars) (st : Store) (b : Bool) (st' : Store) : Prop :=
  ∀ (env : Env) (fm ρ : List Addr) (s : Shared), Fm kd sc env fm s.heap → Wf c fm ρ st s → Vr sc env fm ρ σ s.heap →
    ∀ Q : Bool → Shared → Prop, (∀ s' ρ', Wf c fm ρ' st' s' → Adv ρ ρ' s s' → Q b s') →
      wpAny (model c.prog c.w) A (forIn ifs true fun c r => if r = true then do let ok ← isTrue c env (eval c env); pure (ForInStep.yield ok) else pure (ForInStep.yield r)) Q (fun _ _ => False) s
theorem test_nil : TestOk c A kd sc [] σ st true st := fun env fm ρ s F W V Q hQ => wpAny_tests_nil (hQ _ ρ W (Adv.refl _ _))
theorem test_one {e : Expr} {b : Bool} (h : EvT c A kd sc e σ st b st') : TestOk c A kd sc [e] σ st b st' := fun env fm ρ s F W V Q hQ => wpAny_tests_one (h env fm ρ s F W V Q hQ)

theorem codeAny_compLoop_all {elt target iter : Expr} {ifs : List Expr} {it acc : Value} {R : Result → Shared → Prop} (I : Nat → Shared → Prop)
    (turn : ∀ n s, I n s → ∀ (J N : Shared → Prop) (E : Value → Shared → Prop), (∀ m s', m < n → I m s' → J s') → (∀ s', R (.ok .next) s' → N s') → wpAny (model c.prog c.w) A (pyNext it) (fun r s₁ => match r with
      | none => N s₁
      | some v => wpAny (model c.prog c.w) A (letOwnedTupleGo target it v) (fun _ s₁' => wpAny (model c.prog c.w) A (assign target env v) (fun _ s₂ =>
          wpAny (model c.prog c.w) A (forIn ifs true fun c r => if r = true then do let ok ← isTrue c env (eval c env); pure (ForInStep.yield ok) else pure (ForInStep.yield r)) (fun ok s₃ =>
            if ok = true then wpAny (model c.prog c.w) A (eval elt env) (fun x s₄ =>
              wpAny (model c.prog c.w) A (call (.builtin "list.append") [acc, x]) (fun _ s₅ => J s₅) E s₄) E s₃
            else J s₃) E s₂) E s₁') E s₁) E s)
    (n : Nat) (h : I n s) : codeAny (model c.prog c.w) A (.compLoop (.ListComp elt [⟨target, iter, ifs, 0⟩] scope pos) 0 it acc env) R s := by
  refine codeAny_loop rfl I (fun n s hI => ?_) n h
  show wpAny _ A ((compTurn (.ListComp elt [⟨target, iter, ifs, 0⟩] scope pos) 0 it acc env).onRaise (fun x => do noteFrame x env; theTreesLotGoes x)) _ _ s
  refine wpAny_noted ?_
  rw [compTurn_list]
  refine wpAny_bind (wpAny_standAt (wpAny_bind (wpAny_mono (turn n s hI (fun s' => ∃ m, m < n ∧ I m s') (fun s' => R (.ok .next) s') _ (fun m _ h1 h2 => ⟨m, h1, h2⟩) fun _ q => q) (fun r s₁ h₁ => ?_) fun _ _ h' => h')))
  cases r with
  | none => exact wpAny_pure h₁
  | some v =>
    refine wpAny_bind (wpAny_mono h₁ (fun _ s₁' h₁' => ?_) fun _ _ h' => h')
    refine wpAny_bind (wpAny_mono h₁' (fun _ s₂ h₂ => wpAny_bind (wpAny_mono h₂ (fun ok s₃ h₃ => ?_) fun _ _ h' => h')) fun _ _ h' => h')
    cases ok with
    | false => exact wpAny_pure ⟨rfl, h₃⟩
    | true =>
      exact wpAny_bind (wpAny_bind (wpAny_mono h₃ (fun x s₄ h₄ => wpAny_bind (wpAny_mono h₄ (fun _ s₅ h₅ => wpAny_pure (wpAny_pure ⟨rfl, h₅⟩)) fun _ _ h' => h')) fun _ _ h' => h'))

theorem Go.many {a b : List Addr} {h h' : Heap} : ∀ (ns : List Addr), Go a b h h' → (∀ q ∈ ns, h.get? q = none) → Go a (ns ++ b) h h'
  | [], x, _ => x
  | q :: r, x, hn => (Go.many r x fun z hz => hn z (.tail _ hz)).add (hn q (.head _))
theorem Wf.many {ns : List Addr} (W : Wf c fm ρ st s) (hs : ∃ h tk, s' = { s with heap := h, toks := tk }) (k : ∀ b o, s.heap.get? b = some o → s'.heap.get? b = some o) (hn : ∀ q ∈ ns, s.heap.get? q = none) (al : ∀ q ∈ ns, ∃ o, s'.heap.get? q = some o) :
    Wf c (ns ++ fm) ρ st s' := by
  refine W.go hs (Go.many ns (⟨fun b o _ e => k b o e, fun _ h n => absurd h n⟩ : Go (fm ++ ρ) (fm ++ ρ) s.heap s'.heap) hn |> (by rw [List.append_assoc]; exact ·)) (fun b _ o e => k b o e) (fun b hb => ?_) (fun b hb hm => ?_)
  · rcases List.mem_append.mp hb with hb | hb
    · exact al b hb
    · obtain ⟨o, e⟩ := W.alive b (.inl hb); exact ⟨o, k b o e⟩
  · rcases List.mem_append.mp hm with hm | hm
    · exact W.fresh (hn b hm) (List.mem_append_right _ hb)
    · exact W.apart b hb hm

noncomputable def CK (c : Cx) (A : Around) (fm ρ : List Addr) (s : Shared) (use : Option (Value → Sem Unit)) (Q : Value → Shared → Prop) (out : List D) (st' : Store) : Prop :=
  ∀ C a vs nn m s5 ρ5, Wf c (C :: a :: fm) ρ5 st' s5 → Adv ρ ρ5 s s5 → s.heap.get? C = none → s.heap.get? a = none → C ≠ a → s5.heap.get? a = some (lstObj vs nn) → s5.heap.Ns C m → Lays (Out (C :: a :: fm ++ ρ5) s5.heap) ρ5 vs out →
      compPost (model c.prog c.w) A (fun _ _ => False) use Q (.ref a) C (.ok .next) s5
theorem lid_le : lid ≤ sizeLine := by decide
theorem le_up {j k N : Nat} (h : j + (k + 1) ≤ N) : j + 1 + k ≤ N := by rw [Nat.add_assoc, Nat.add_comm 1 k]; exact h
theorem len_up {acc : List D} {j : Nat} {d : D} (h : acc.length ≤ j) : (acc ++ [d]).length ≤ j + 1 := by rw [List.length_append]; exact Nat.succ_le_succ h
theorem lst_push {h : Heap} {a : Addr} {vs : List Value} {y : Value} {n : Nat} (e : h.get? a = some { cls := .type "list", dict := none, data := .seq (vs.toArray.push y) n }) : h.get? a = some (lstObj (vs ++ [y]) n) := by
  rw [e]; simp [lstObj]
theorem ns_at {a : Addr} {m : Str → Option Value} (x : h.Ns a m) : ∃ o, h.get? a = some o := x.elim fun o x => x.elim fun _ x => x.elim fun _ x => ⟨o, x.1⟩
theorem all_c {P : Addr → Prop} {x : Addr} {l : List Addr} (h : P x) (k : ∀ q ∈ l, P q) : ∀ q ∈ x :: l, P q := List.forall_mem_cons.mpr ⟨h, k⟩
theorem app_sub {l l' r : List Addr} (h : ∀ q ∈ l, q ∈ l') : ∀ q ∈ l ++ r, q ∈ l' ++ r := fun q hq => (List.mem_append.mp hq).elim (fun x => List.mem_append_left _ (h q x)) fun x => List.mem_append_right _ x
theorem some_none {α : Type} {x : Option α} {y : α} {C : Prop} (h : x = some y) (h' : x = none) : C := nomatch h.symm.trans h'
theorem up_none {h h' : Heap} (up : ∀ b o, h.get? b = some o → h'.get? b = some o) {q : Addr} (e : h'.get? q = none) : h.get? q = none :=
  match x : h.get? q with
  | none => rfl
  | some o => some_none (up q o x) e
theorem Adv.none {fm₁ : List Addr} (A1 : Adv ρ ρ' s s') (W1 : Wf c fm₁ ρ' st₁ s') {q : Addr} (e : s'.heap.get? q = none) : s.heap.get? q = none :=
  match x : s.heap.get? q with
  | .none => rfl
  | some o => if hq : q ∈ ρ then (W1.alive q (.inr (A1.mem hq))).elim fun _ e2 => some_none e2 e else some_none (A1.keep q o hq x) e
theorem compGo_pos {testF : Vars → Store → Option (Bool × Store)} {eltF : Vars → Store → Option (D × Store)} {src : Store → Nat → Option (Option D)} {N j : Nat} {st : Store} {acc : List D} {b : List D × Store} (hg : compGo testF eltF src tg σ N j st acc = some b) : ∃ o, src st j = some o := by
  cases N with
  | zero => exact bad hg
  | succ N => exact bd_el (show (src st j).bind _ = some b from hg) fun o e _ => ⟨o, e⟩
theorem bt_el {β γ : Type} {T : Vars → Option γ} {g : Vars → γ → Option β} {b : β} {P : Prop} (h : ((bindT tg σ d).bind fun x => (T x).bind (g x)) = some b) (k : ∀ σ₂ τ r, bindT tg (σ.del (tgI tg)) d = some τ → (∀ i, τ.get i = σ₂.get i) → T σ₂ = some r → g σ₂ r = some b → P) : P :=
  bd_el h fun _ q h => (bindT_agree q).elim fun τ q => bd_el h fun r e h => k _ τ r q.1 q.2 e h
theorem CC.os (X' : CC kd sc sc' scope tv te tg) {cs : List (Str × Addr)} {cs' fr : List Addr} {C : Addr} (CEs : CE env scope fm cs' cs) (h : ∀ q ∈ C :: cs', q ∈ fr) : OwnS (fun x => x ∈ tv.map (·.1)) (compEnvC scope cs C env) fr (C :: cs') :=
  ⟨.head _, fun x cc hx e => (CEs.sound _ _ e).elim (fun q => (List.mem_map.mp hx).elim fun p hp => absurd (hp.2 ▸ q.1) (X'.tnf p hp.1)) fun q => .tail _ q.1, h⟩
theorem CC.hfree (X' : CC kd sc sc' scope tv te tg) (F : Fm kd sc env fm h) : ∀ y ∈ scope.names, y.2 = .free → ∃ cc, env.cells.lookup y.1 = some cc := fun y hy hk => by
  obtain ⟨p, hp, e, hkd⟩ := X'.free y hy hk
  rcases F.kinds p hp with q | q
  · rw [e] at q; rcases hkd with r | r <;> rw [r] at q <;> cases q
  · exact e ▸ q.2
theorem if_in {b : Bool} {X Y : Prop} (h1 : b = true → X) (h2 : b = false → Y) : if b = true then X else Y := by
  cases b
  · exact h2 rfl
  · exact h1 rfl
theorem m1_t {α : Type} {b : Bool} {x y z : α} (h : (match b with | true => x | false => y) = z) (e : b = true) : x = z := by subst e; exact h
theorem m1_f {α : Type} {b : Bool} {x y z : α} (h : (match b with | true => x | false => y) = z) (e : b = false) : y = z := by subst e; exact h
set_option maxHeartbeats 2000000 in
theorem comp_go {elt iter : Expr} {ifs : List Expr} {src : Store → Nat → Option (Option D)} {out : List D} {pos' : Pos} {use : Option (Value → Sem Unit)} {Q : Value → Shared → Prop} {N : Nat} {testF : Vars → Store → Option (Bool × Store)} {eltF : Vars → Store → Option (D × Store)}
    (R : Rm n A) (X' : CC kd sc sc' scope tv te tg) (hf : ∀ x, foldedSetIterable iter env x = pure x)
    (h : EvE c A kd sc iter σ st d st₁) (hi : srcOf tg d = some src) (hlen : N ≤ lid) (hg : compGo testF eltF src tg σ N 0 st₁ [] = some (out, st'))
    (ht : ∀ σ st b st', testF σ st = some (b, st') → TestOk c A (relK kd scope.names) sc' ifs σ st b st')
    (he : ∀ σ st d st', eltF σ st = some (d, st') → EvE c A (relK kd scope.names) sc' elt σ st d st')
    (F : Fm kd sc env fm s.heap) (W : Wf c fm ρ st s) (V : Vr sc env fm ρ σ s.heap)
    (hQ : CK c A fm ρ s use Q out st') :
    wpAny (model c.prog c.w) A (comprehension (.ListComp elt [⟨te, iter, ifs, 0⟩] scope pos) scope env pos' (newList []) false (eval iter env) use) Q (fun _ _ => False) s := by
  have hfree := X'.hfree F
  refine wpAny_comprehension_free rfl hf (closure_is hfree) X'.kind X'.names (h env fm ρ s F W V _ fun v s1 ρ1 W1 A1 l => iter_okS R W1 l hi (compGo_pos hg) fun o St It ho hst => ?_)
  have F1 := F.adv W A1
  have V1 := V.adv F W A1
  refine wpAny_newObj_type ?_
  generalize hI : s1.heap.objs.size = I at *
  have hI0 : s1.heap.get? I = none := hI ▸ size_none _
  have gI1 : (s1.heap.push o).get? I = some o := hI ▸ Heap.get?_push_size _ ho
  have up1 : ∀ b o', s1.heap.get? b = some o' → (s1.heap.push o).get? b = some o' := fun b o' e => Heap.get?_push_of_some _ e
  generalize s1.heap.push o = H1 at *
  show wpAny _ A _ _ _ { s1 with heap := H1.push { cls := .type "list", dict := none, data := .seq ([] : List Value).toArray } }
  generalize ha : H1.objs.size = a at *
  have ha0 : H1.get? a = none := ha ▸ size_none _
  have ga2 : (H1.push { cls := .type "list", dict := none, data := .seq ([] : List Value).toArray }).get? a = some (lstObj [] 0) := ha ▸ Heap.get?_push_size _ rfl
  have up2 : ∀ b o', H1.get? b = some o' → (H1.push { cls := .type "list", dict := none, data := .seq ([] : List Value).toArray }).get? b = some o' := fun b o' e => Heap.get?_push_of_some _ e
  generalize H1.push { cls := .type "list", dict := none, data := .seq ([] : List Value).toArray } = H2 at *
  have up12 : ∀ b o', s1.heap.get? b = some o' → H2.get? b = some o' := fun b o' e => up2 b o' (up1 b o' e)
  refine new_env (s := { s1 with heap := H2 }) X' (F1.keep fun b _ o' e => up12 b o' e) (fun b hb => let ⟨o', e⟩ := W1.alive b (.inl hb); ⟨o', up12 b o' e⟩) hfree fun h₁ tk1 cs cs' hns₁ up3 CEs hcs => ?_
  dsimp only at hns₁ up3 hcs ⊢
  generalize hC : H2.objs.size = C at *
  have hC0 : H2.get? C = none := hC ▸ size_none _
  have up : ∀ b o', s1.heap.get? b = some o' → h₁.get? b = some o' := fun b o' e => up3 b o' (up12 b o' e)
  have hIa : I ≠ a := get_ne gI1 ha0
  have hIC : I ≠ C := get_ne (up2 _ _ gI1) hC0
  have haC : a ≠ C := get_ne ga2 hC0
  have hai : s1.heap.get? a = none := up_none up1 ha0
  have hCi : s1.heap.get? C = none := up_none up12 hC0
  -- the new objects
  generalize hN : C :: a :: I :: cs' = ns at *
  have nsN : ∀ q ∈ ns, s1.heap.get? q = none := hN ▸ all_c hCi (all_c hai (all_c hI0 fun q hq => up_none up12 (hcs q hq).1))
  have nsA : ∀ q ∈ ns, ∃ o', h₁.get? q = some o' := hN ▸ all_c (ns_at hns₁) (all_c ⟨_, up3 _ _ ga2⟩ (all_c ⟨_, up3 _ _ (up2 _ _ gI1)⟩ fun q hq => (hcs q hq).2.2.elim fun o' w => ⟨o', And.left w⟩))
  have inC : C ∈ ns := hN ▸ .head _
  have inA : a ∈ ns := hN ▸ .tail _ (.head _)
  have inI : I ∈ ns := hN ▸ .tail _ (.tail _ (.head _))
  have inS : ∀ q ∈ cs', q ∈ ns := fun q hq => hN ▸ .tail _ (.tail _ (.tail _ hq))
  have csI : I ∉ cs' := fun q => some_none (up2 _ _ gI1) (hcs I q).1
  have csA : a ∉ cs' := fun q => some_none ga2 (hcs a q).1
  have nf : ∀ {q : Addr}, s1.heap.get? q = none → q ∉ fm ∧ q ∉ ρ1 := fun {q} e => by
    exact not_or.mp fun q => W1.fresh e (List.mem_append.mpr q)
  have nb : ∀ {ρi : List Addr} {s' : Shared}, Adv ρ1 ρi s1 s' → Go (fm ++ ρ1) (ns ++ fm ++ ρi) s1.heap s'.heap := fun {ρi s'} A => by
    rw [List.append_assoc]; exact Go.many ns (A.go fm) nsN
  have ms : ∀ q ∈ fm, q ∈ ns ++ fm := fun q hq => List.mem_append_right _ hq
  -- the first state
  let s3 : Shared := { s1 with heap := h₁, toks := tk1 }
  have A3 : Adv ρ1 ρ1 s1 s3 := ⟨fun b o' _ e => up b o' e, fun _ h n => absurd h n, fun _ _ e => e⟩
  have W3 : Wf c (ns ++ fm) ρ1 st₁ s3 := W1.many ⟨_, _, rfl⟩ up nsN nsA
  have St3 : St 0 h₁ := It.frame _ _ _ hst (fun o' e => up3 _ _ (up2 _ _ e)) (fun b o' q => up1 _ _ q.1) fun b o' q => up _ _ q.1
  have V3 : Vr sc env (ns ++ fm) ρ1 σ h₁ := V1.go F1 (fun b _ o' e => up b o' e) (nb A3) fun _ _ e => e
  have F3 : Fm kd sc env fm h₁ := F1.keep fun b _ o' e => up b o' e
  have mkF : ∀ {h : Heap} {m : Str → Option Value}, Fm kd sc env fm h → h.Ns C m → (∀ cc ∈ cs', ∃ v, h.IsCell cc v) → Fm (relK kd scope.names) sc' (compEnvC scope cs C env) (ns ++ fm) h := fun {h m} F hn hc =>
    comp_fm X' F CEs (List.mem_append_left _ inC) ms hn (nf hCi).1 fun cc q => ⟨List.mem_append_left _ (inS _ q), hc cc q, (hcs cc q).2.1⟩
  have inCs : ∀ q ∈ C :: cs', q ∈ ns := all_c inC inS
  have OS : OwnS (fun x => x ∈ tv.map (·.1)) (compEnvC scope cs C env) (ns ++ fm) (C :: cs') := X'.os CEs fun q hq => List.mem_append_left _ (inCs q hq)
  have oNone : ∀ q ∈ C :: cs', s1.heap.get? q = none := fun q hq => nsN q (inCs q hq)
  have loop : codeAny (model c.prog c.w) A (.compLoop (.ListComp elt [⟨te, iter, ifs, 0⟩] scope pos) 0 (.ref I) (.ref a) (compEnvC scope cs C env))
      (compPost (model c.prog c.w) A (fun _ _ => False) use Q (.ref a) C) s3 := by
    refine codeAny_compLoop_all (fun k s' => ∀ P : Prop, (∀ j ρi sti acc vs nn m, St j s'.heap → Wf c (ns ++ fm) ρi sti s' → Adv ρ1 ρi s1 s' → Fm kd sc env fm s'.heap →
      Vr sc env (ns ++ fm) ρi σ s'.heap → s'.heap.get? a = some (lstObj vs nn) → s'.heap.Ns C m → (∀ cc ∈ cs', ∃ v, s'.heap.IsCell cc v) → Lays (Out (ns ++ fm ++ ρi) s'.heap) ρi vs acc → acc.length ≤ j → j + k ≤ N → compGo testF eltF src tg σ k j sti acc = some (out, st') → P) → P) ?_ N
      fun P k => k 0 ρ1 st₁ [] [] 0 _ St3 W3 A3 F3 V3 (up3 _ _ ga2) hns₁ (fun cc q => ⟨_, (hcs cc q).2.2⟩) .nil (Nat.le_refl _) (Nat.le_of_eq (Nat.zero_add N)) hg
    clear hg W3 A3 F3 V3 hns₁ nsA hcs
    intro k
    cases k with
    | zero => exact fun s' hI J N E hJ hN => hI _ fun j ρi sti acc vs nn m hSt Wi Ai Fi Vi gai hni hci lsi hacc hjk hgo => bad hgo
    | succ k =>
    refine fun s' hI J N E hJ hN => hI _ fun j ρi sti acc vs nn m hSt Wi Ai Fi Vi gai hni hci lsi hacc hjk hgo => ?_
    clear hI
    have gi := nb Ai
    have inI' : I ∈ ns ++ fm := List.mem_append_left _ inI
    refine bd_el (show (src sti j).bind _ = some (out, st') from hgo) fun oo hsrc hgo => ?_
    refine It.step j (ns ++ fm) ρi sti s' oo _ _ Wi inI' gi Ai.pre hSt hsrc ?_
    cases oo with
    | some d' =>
      intro v' h1 tk1 ld hSt1 hk1
      refine bt_el (tg := tg) (σ := σ) (d := d') (T := fun x => testF x sti) (g := fun x r => match r.1 with | true => (eltF x r.2).bind fun y => compGo testF eltF src tg σ k (j + 1) y.2 (acc ++ [y.1]) | false => compGo testF eltF src tg σ k (j + 1) r.2 acc) hgo fun σ2 τ r hbind2 hag htest hgo => ?_
      have W4 := Wi.chg (s' := { s' with heap := h1, toks := tk1 }) inI' ⟨_, _, rfl⟩ hk1 (It.alive _ _ hSt1)
      have g4 := W4.2
      replace W4 := W4.1
      have kf : ∀ b ∈ fm, ∀ o', s'.heap.get? b = some o' → h1.get? b = some o' := fun b hb o' e => hk1 b o' (fun q => (nf hI0).1 (q ▸ hb)) e
      have ga4 : h1.get? a = some (lstObj vs nn) := hk1 _ _ (Ne.symm hIa) gai
      have hn4 : h1.Ns C m := hni.at' fun o' e => hk1 _ o' (Ne.symm hIC) e
      have hc4 : ∀ cc ∈ cs', ∃ v, h1.IsCell cc v := fun cc q => let ⟨v, x⟩ := hci cc q; ⟨v, cellAt x fun o' e => hk1 _ o' (fun z => csI (z ▸ q)) e⟩
      have F4 : Fm kd sc env fm h1 := Fi.keep kf
      have V4 : Vr sc env (ns ++ fm) ρi σ h1 := Vi.go Fi kf g4 fun _ _ e => e
      have l4 : Lay (Out (ns ++ fm ++ ρi) h1) ρi v' d' := g4.lay (fun _ _ e => e) ld
      have FF4 := mkF F4 hn4 hc4
      have VV4 := comp_vr (C := C) X' F4 CEs V4 X'.fc
      refine wp_up (tg_lets (s := { s' with heap := h1, toks := tk1 }) (E := fun _ _ => False) (Q := fun _ s₁' => wpAny _ _ _ _ _ s₁') It X'.tgt hbind2 l4 hSt1 (wp_up (tg_assign R X'.tgt hbind2 FF4 OS X'.tn W4 VV4 l4 fun s5 W5 A5 FF5 VV5 => ?_)))
      have VV := VV5.same hag
      -- what the target left alone
      have kT : ∀ b o', b ∉ C :: cs' → b ∉ ρi → h1.get? b = some o' → s5.heap.get? b = some o' := fun b o' hb hr e => A5.keep b o' (fun q => (List.mem_append.mp q).elim hb hr) e
      have offC : ∀ {b : Addr}, b ∈ fm → b ∉ C :: cs' := fun {b} hb q => (nf (oNone b q)).1 hb
      have aOff : a ∉ C :: cs' := fun q => (List.mem_cons.mp q).elim haC csA
      have iOff : I ∉ C :: cs' := fun q => (List.mem_cons.mp q).elim hIC csI
      have nr : ∀ {ρj : List Addr} {stj : Store} {sj : Shared}, Wf c (ns ++ fm) ρj stj sj → ∀ q ∈ ns ++ fm, q ∉ ρj := fun {ρj stj sj} Wj q hq r => Wj.apart q r hq
      have kf5 : ∀ b ∈ fm, ∀ o', h1.get? b = some o' → s5.heap.get? b = some o' := fun b hb o' e => kT b o' (offC hb) (nr Wi b (ms b hb)) e
      have g5 : Go (ns ++ fm ++ ρi) (ns ++ fm ++ ρi) h1 s5.heap := A5.wide OS.sub
      have F5 : Fm kd sc env fm s5.heap := F4.keep kf5
      have V5 : Vr sc env (ns ++ fm) ρi σ s5.heap := V4.go F4 kf5 g5 fun _ _ e => e
      have ga5 : s5.heap.get? a = some (lstObj vs nn) := kT _ _ aOff (nr Wi a (List.mem_append_left _ inA)) ga4
      have St5 : St (j + 1) s5.heap := It.frame _ _ _ hSt1 (fun o' e => kT _ o' iOff (nr Wi I inI') e) (fun b o' q => ((gi.trans g4).out q).1) fun b o' q => ((gi.trans (g4.trans g5)).out q).1
      have ls5 : Lays (Out (ns ++ fm ++ ρi) s5.heap) ρi vs acc := (g4.trans g5).lays (fun _ _ e => e) lsi
      have B5 : Adv ρ1 ρi s1 s5 := ⟨fun b o' hb e =>
          have e1 := hk1 b o' (get_ne e hI0) (Ai.keep b o' hb e)
          if hr : b ∈ ρi then some_none e (Ai.news b hr hb) else kT b o' (fun q => some_none e (oNone b q)) hr e1, Ai.news, Ai.pre⟩
      have hc5 : ∀ cc ∈ cs', ∃ v, s5.heap.IsCell cc v := fun cc q => (CEs.back cc q).elim fun y hy => (FF5.cell y cc hy).2.1
      refine wp_up (ht _ _ _ _ htest _ _ ρi _ FF5 W5 VV _ fun s6 ρ6 W6 A6 => ?_)
      have fmk : ∀ {ρj : List Addr} {sj : Shared}, Adv ρi ρj s5 sj → ∀ q ∈ ns ++ fm, ∀ o', s5.heap.get? q = some o' → sj.heap.get? q = some o' := fun {ρj sj} Aj q hq o' e => Aj.keep q o' (fun r => W5.apart q r hq) e
      have stj : ∀ {ρj : List Addr} {sj : Shared}, Adv ρi ρj s5 sj → St (j + 1) sj.heap := fun {ρj sj} Aj =>
        It.frame _ _ _ St5 (fun o' e => fmk Aj _ inI' o' e) (fun b o' q => ((gi.trans (g4.trans g5)).out q).1) fun b o' q => (((gi.trans (g4.trans g5)).trans (Aj.go _)).out q).1
      refine if_in (fun hb => ?_) fun hb => ?_
      rotate_left
      · refine FF5.ns.elim fun m5 hn5 => hJ k _ (Nat.lt_succ_self k) fun P kk => kk (j + 1) ρ6 r.2 acc vs nn _ (stj A6) W6 (B5.trans A6) (F5.keep fun q hq => fmk A6 q (ms q hq)) (V5.go F5 (fun q hq => fmk A6 q (ms q hq)) (A6.go _) A6.pre)
          (fmk A6 _ (List.mem_append_left _ inA) _ ga5) (hn5.at' fun o' e => fmk A6 _ (List.mem_append_left _ inC) o' e) (fun cc q => (hc5 cc q).elim fun v x => ⟨v, cellAt x fun o' e => fmk A6 _ (List.mem_append_left _ (inS _ q)) o' e⟩) (A6.lays ls5) (Nat.le_succ_of_le hacc) (le_up hjk) (m1_f hgo hb)
      ·
        refine bd_el (m1_t hgo hb) fun z helt hgo => ?_
        have FF6 := FF5.adv W5 A6
        have VV6 := VV.adv FF5 W5 A6
        refine wp_up (he _ _ _ _ helt _ _ ρ6 s6 FF6 W6 VV6 _ fun y s7 ρ7 W7 A7 ly => ?_)
        have A67 := A6.trans A7
        have ga7 : s7.heap.PlainList a vs.toArray := ⟨nn, fmk A67 _ (List.mem_append_left _ inA) _ ga5⟩
        have ls7 := A67.lays ls5
        refine wpAny_list_append_plain ga7 (fun h8 hl8 hs8 => ?_) (by rw [List.size_toArray, ls7.length]; exact Nat.le_trans (Nat.le_trans hacc (Nat.le_trans (Nat.le_add_right j (k + 1)) hjk)) (Nat.le_trans hlen lid_le))
        refine FF5.ns.elim fun m5 hn5 => hl8.elim fun n8 e8 => ?_
        have hk8 : ∀ b o', b ≠ a → s7.heap.get? b = some o' → h8.get? b = some o' := hs8.extBut
        have W8 := W7.chg (s' := { s7 with heap := h8 }) (a := a) (List.mem_append_left _ inA) ⟨_, s7.toks, rfl⟩ hk8 ⟨_, e8⟩
        have g8 := W8.2
        replace W8 := W8.1
        have kf8 : ∀ b ∈ fm, ∀ o', s7.heap.get? b = some o' → h8.get? b = some o' := fun b hb o' e => hk8 b o' (fun q => (nf hai).1 (q ▸ hb)) e
        have F7 : Fm kd sc env fm s7.heap := F5.keep fun q hq => fmk A67 q (ms q hq)
        have V7 : Vr sc env (ns ++ fm) ρ7 σ s7.heap := V5.go F5 (fun q hq => fmk A67 q (ms q hq)) (A67.go _) A67.pre
        have g0 := (gi.trans (g4.trans g5)).trans (A67.go (ns ++ fm))
        have B7 := B5.trans A67
        exact hJ k _ (Nat.lt_succ_self k) fun P kk => kk (j + 1) ρ7 z.2 (acc ++ [z.1]) (vs ++ [y]) n8 _ (It.frame _ _ _ (stj A67) (fun o' e => hk8 _ _ hIa e) (fun b o' q => (g0.out q).1) (fun b o' q => ((g0.trans g8).out q).1)) W8
          ⟨fun b o' hb e => hk8 b o' (get_ne e hai) (B7.keep b o' hb e), B7.news, B7.pre⟩ (F7.keep kf8) (V7.go F7 kf8 g8 (fun _ _ e => e)) (lst_push e8)
          ((hn5.at' fun o' e => fmk A67 _ (List.mem_append_left _ inC) o' e).at' fun o' e => hk8 _ o' (Ne.symm haC) e) (fun cc q => (hc5 cc q).elim fun v x => ⟨v, cellAt (cellAt x fun o' e => fmk A67 _ (List.mem_append_left _ (inS _ q)) o' e) fun o' e => hk8 _ o' (fun z => csA (z ▸ q)) e⟩) ((g8.lays (fun _ _ e => e) ls7).append (.one (g8.lay (fun _ _ e => e) ly))) (len_up hacc) (le_up hjk) hgo
    | none =>
      intro h1 tk1 hk1
      replace hQ := rp2 (P := CK c A fm ρ s use Q) (x := (acc, sti)) hgo hQ
      clear hgo
      have sub3 : ∀ q ∈ C :: a :: fm, q ∈ ns ++ fm := all_c (List.mem_append_left _ inC) (all_c (List.mem_append_left _ inA) ms)
      have gd : Go (ns ++ fm ++ ρi) (C :: a :: fm ++ ρi) s'.heap h1 := ⟨fun b o' hb e => hk1 b o' (fun q => hb (by rw [q]; exact List.mem_append_left _ inI')) e, fun q hq hn => absurd (app_sub sub3 q hq) hn⟩
      have kk : ∀ q, q ≠ I → ∀ o', s'.heap.get? q = some o' → h1.get? q = some o' := fun q hq o' e => hk1 q o' hq e
      have al : ∀ {q : Addr}, q ≠ I → q ∈ ns ++ fm → ∃ o', h1.get? q = some o' := fun hn hq => (Wi.alive _ (.inl hq)).elim fun o' e => ⟨o', kk _ hn o' e⟩
      have W6 : Wf c (C :: a :: fm) ρi sti { s' with heap := h1, toks := tk1 } :=
        Wi.go ⟨_, _, rfl⟩ gd (fun q hq o' e => kk q (fun r => Wi.apart q hq (r ▸ inI')) o' e) (all_c (al (Ne.symm hIC) (List.mem_append_left _ inC)) (all_c (al (Ne.symm hIa) (List.mem_append_left _ inA)) fun q hq => al (fun r => (nf hI0).1 (r ▸ hq)) (ms _ hq))) (fun q hq hm => Wi.apart q hq (sub3 q hm))
      exact hN _ (hQ C a vs nn m _ ρi W6 (A1.trans ⟨fun b o' hb e => kk b (get_ne e hI0) o' (Ai.keep b o' hb e), Ai.news, Ai.pre⟩) (A1.none W1 hCi) (A1.none W1 hai) (Ne.symm haC) (kk _ (Ne.symm hIa) _ gai) (hni.at' fun o' e => kk _ (Ne.symm hIC) o' e) (gd.lays (fun _ _ e => e) lsi))
  exact codeAny_compStart_list loop (It.self 0 s3 _ _ St3 loop)
end
end Mine.Internal
end
section
open PySem PySem.W PySem.Calls PyProof.Rows PySem.Builtin
set_option Elab.async false
set_option linter.unusedVariables false
namespace Mine.Internal

section
variable {c : Cx} {A : Around} {kd : Str → Option NameKind} {sc sc' : List (Str × Nat)} {σ σ' σ₁ σ₂ : Vars} {st st₁ st₂ st₃ st' : Store} {x y d : D} {n : Nat} {pos : Pos} {env : Env} {fm fm' own ρ ρ' : List Addr} {s s' : Shared} {h h' : Heap} {scope : Scope} {tv : List (Str × Nat)} {te : Expr} {tg : Tg} {src : Store → Nat → Option (Option D)} {N : Nat}

theorem mem2 {a C : Addr} : ∀ q ∈ fm, q ∈ C :: a :: fm := fun q hq => List.mem_cons_of_mem _ (List.mem_cons_of_mem _ hq)
theorem Wf.drop1 {C : Addr} (W : Wf c (C :: fm) ρ st s) (hC : C ∉ fm) {h' : Heap} (k : ∀ b o, b ≠ C → s.heap.get? b = some o → h'.get? b = some o) :
    Wf c fm ρ st { s with heap := h' } ∧ Go (C :: fm ++ ρ) (fm ++ ρ) s.heap h' := by
  have g : Go (C :: fm ++ ρ) (fm ++ ρ) s.heap h' := ⟨fun b o hb e => k b o (fun q => hb (by rw [q]; exact List.mem_append_left _ (.head _))) e, fun q hq hn => absurd (List.mem_cons_of_mem _ hq) hn⟩
  exact ⟨W.go ⟨_, s.toks, rfl⟩ g (fun b hb o e => k b o (fun q => W.apart b hb (q ▸ .head _)) e) (fun b hb => let ⟨o, e⟩ := W.alive b (.inl (mem_w _ _ hb)); ⟨o, k b o (fun q => hC (q ▸ hb)) e⟩) fun b hb q => W.apart b hb (mem_w _ _ q), g⟩

noncomputable def EvNew (c : Cx) (A : Around) (kd : Str → Option NameKind) (sc : List (Str × Nat)) (e : Expr) (σ : Vars) (st : Store) (ds : List D) (st' : Store) : Prop :=
  ∀ (env : Env) (fm ρ : List Addr) (s : Shared), Fm kd sc env fm s.heap → Wf c fm ρ st s → Vr sc env fm ρ σ s.heap →
    ∀ Q : Value → Shared → Prop, (∀ a vs nn s' ρ', Wf c (a :: fm) ρ' st' s' → Adv ρ ρ' s s' → s.heap.get? a = none → s'.heap.get? a = some (lstObj vs nn) → Lays (Out (a :: fm ++ ρ') s'.heap) ρ' vs ds → Q (.ref a) s') →
      wpAny (model c.prog c.w) A (eval e env) Q (fun _ _ => False) s
theorem fresh_fm (W : Wf c fm ρ st s) {a : Addr} (h : s.heap.get? a = none) : a ∉ fm ∧ a ∉ ρ := by
  have := W.fresh h; rw [List.mem_append, not_or] at this; exact this
theorem EvNew.val {e : Expr} {ds : List D} (h : EvNew c A kd sc e σ st ds st') : EvE c A kd sc e σ st (.lst ds) st' := by
  intro env fm ρ s F W V Q hQ
  refine h env fm ρ s F W V Q fun a vs nn s5 ρ5 W5 A5 ha e5 l5 => ?_
  have gw : Go (a :: fm ++ ρ5) (fm ++ ρ5) s5.heap s5.heap := (Go.refl _ _).sub fun q h => List.mem_cons_of_mem _ h
  refine hQ _ s5 ρ5 (W5.weak (mem_w a)) A5 (.lst (n := nn) ⟨e5, fun hm => ?_⟩ (gw.lays (fun _ _ e => e) l5))
  rcases List.mem_append.mp hm with q | q
  · exact (fresh_fm W ha).1 q
  · exact W5.apart a q (.head _)

theorem new_comp {elt iter : Expr} {ifs : List Expr} {out : List D} {testF : Vars → Store → Option (Bool × Store)} {eltF : Vars → Store → Option (D × Store)}
    (R : Rm n A) (X' : CC kd sc sc' scope tv te tg) (hf : ∀ env x, foldedSetIterable iter env x = pure x)
    (h : EvE c A kd sc iter σ st d st₁) (hi : srcOf tg d = some src) (hlen : N ≤ lid) (hg : compGo testF eltF src tg σ N 0 st₁ [] = some (out, st'))
    (ht : ∀ σ st b st', testF σ st = some (b, st') → TestOk c A (relK kd scope.names) sc' ifs σ st b st')
    (he : ∀ σ st d st', eltF σ st = some (d, st') → EvE c A (relK kd scope.names) sc' elt σ st d st') : EvNew c A kd sc (.ListComp elt [⟨te, iter, ifs, 0⟩] scope pos) σ st out st' := by
  intro env fm ρ s F W V Q hQ
  rw [eval_ListComp]
  refine comp_go R X' (hf env) h hi hlen hg ht he F W V fun C a vs nn m s5 ρ5 W5 A5 hC ha hCa e5 hn l5 => ⟨m, hn, fun h6 hs6 => ?_⟩
  have k6 : ∀ b o, b ≠ C → s5.heap.get? b = some o → h6.get? b = some o := hs6.extBut
  have hCf : C ∉ a :: fm := fun q => by
    rcases List.mem_cons.mp q with q | q
    · exact hCa q
    · exact (fresh_fm W hC).1 q
  obtain ⟨W6, g6⟩ := W5.drop1 (fm := a :: fm) hCf k6
  exact hQ a vs nn _ ρ5 W6 ⟨fun b o hb e => k6 b o (get_ne e hC) (A5.keep b o hb e), A5.news, A5.pre⟩ ha (k6 _ _ (Ne.symm hCa) e5) (g6.lays (fun _ _ e => e) l5)

theorem new_lst {l : List Expr} {ds : List D} (h : EvL c A kd sc l σ st ds st₁) (hn : l.length ≤ lid) (hl : ds.length = l.length) : EvNew c A kd sc (.List l pos) σ st ds st₁ := by
  intro env fm ρ s F W V Q hQ
  refine wpAny_List (h pos env fm ρ s F W V _ fun vs s1 ρ1 W1 A1 ls => ⟨by rw [ls.length, hl]; exact lid_size hn, ?_⟩)
  have hn0 := size_none s1.heap
  have ho : ({ s1 with heap := s1.heap.push (lstObj vs 0) } : Shared).heap.get? s1.heap.objs.size = some (lstObj vs 0) := Heap.get?_push_size _ rfl
  have k : ∀ b o, s1.heap.get? b = some o → (s1.heap.push (lstObj vs 0)).get? b = some o := fun b o e => Heap.get?_push_of_some _ e
  obtain ⟨W2, g2⟩ := W1.add (s' := { s1 with heap := s1.heap.push (lstObj vs 0) }) hn0 ⟨_, s1.toks, rfl⟩ (fun b o _ e => k b o e) ho
  have hs0 : s.heap.get? s1.heap.objs.size = none := by
    cases q' : s.heap.get? s1.heap.objs.size with
    | none => rfl
    | some o' =>
      by_cases hq : s1.heap.objs.size ∈ ρ
      · obtain ⟨o2, e2⟩ := W1.alive _ (.inr (A1.mem hq)); rw [hn0] at e2; cases e2
      · rw [A1.keep _ o' hq q'] at hn0; cases hn0
  exact hQ s1.heap.objs.size vs 0 _ ρ1 W2 (A1.trans ⟨fun b o _ e => k b o e, fun _ h n => absurd h n, fun _ _ e => e⟩) hs0 ho (g2.lays (fun _ _ e => e) ls)

theorem Wf.ml {a : Addr} {vs : List Value} {nn : Nat} {ds : List D} (W : Wf c (a :: fm) ρ st s) (ha : a ∉ fm) (e : s.heap.get? a = some (lstObj vs nn)) (l : Lays (Out (a :: fm ++ ρ) s.heap) ρ vs ds) :
    Wf c fm (ρ ++ [a]) (st ++ [.ml ds]) s ∧ Go (a :: fm ++ ρ) (fm ++ (ρ ++ [a])) s.heap s.heap := by
  have g : Go (a :: fm ++ ρ) (fm ++ (ρ ++ [a])) s.heap s.heap := (Go.refl _ _).sub fun q h => by
    rcases List.mem_append.mp h with h | h
    · exact List.mem_append_left _ (mem_w _ _ h)
    · rcases List.mem_append.mp h with h | h
      · exact List.mem_append_right _ h
      · rw [List.mem_singleton.mp h]; exact .head _
  have p : ∀ (i : Nat) (b : Addr), ρ[i]? = some b → (ρ ++ [a])[i]? = some b := fun i b q => by
    rw [List.getElem?_append_left (List.getElem?_eq_some_iff.mp q).1]; exact q
  refine ⟨⟨W.same, W.base, fun b hb => ?_, fun b hb => ?_, by simp [W.len], fun i b mo e1 e2 => ?_, ?_, fun b hb => ?_⟩, g⟩
  · rcases hb with hb | hb
    · exact W.alive b (.inl (mem_w _ _ hb))
    · rcases List.mem_append.mp hb with hb | hb
      · exact W.alive b (.inr hb)
      · rw [List.mem_singleton.mp hb]; exact ⟨_, e⟩
  · rcases hb with hb | hb
    · exact W.new b (.inl (mem_w _ _ hb))
    · rcases List.mem_append.mp hb with hb | hb
      · exact W.new b (.inr hb)
      · rw [List.mem_singleton.mp hb]; exact W.new a (.inl (.head _))
  · by_cases hi : i < ρ.length
    · rw [List.getElem?_append_left hi] at e1
      rw [List.getElem?_append_left (by rw [← W.len]; exact hi)] at e2
      exact (W.store i b mo e1 e2).mono (fun _ _ q => g.out q) p fun _ q => q
    · have hi' : i = ρ.length := by
        have := (List.getElem?_eq_some_iff.mp e1).1
        rw [List.length_append, List.length_singleton] at this; lia
      subst hi'
      rw [List.getElem?_append_right (Nat.le_refl _)] at e1
      rw [W.len, List.getElem?_append_right (Nat.le_refl _)] at e2
      simp at e1 e2
      subst e1; subst e2
      exact ⟨vs, nn, e, g.lays p l⟩
  · rw [List.nodup_append]
    refine ⟨W.nodup, by simp, fun b hb q hq => ?_⟩
    rw [List.mem_singleton.mp hq]
    exact fun r => W.apart b hb (r ▸ .head _)
  · rcases List.mem_append.mp hb with hb | hb
    · exact fun q => W.apart b hb (mem_w _ _ q)
    · rw [List.mem_singleton.mp hb]; exact ha

theorem x_asgM {Y : Str} {p : Pos} {i : Nat} {e : Expr} {ds : List D} (hx : (Y, i) ∈ sc) (hk : kd Y = some .local ∨ kd Y = some .cell) (hsw : ∀ env : Env, env.kindOf = kd → env.scope.kind = .function → swapsWith e (some (.Name Y p)) pos.line env = pure false)
    (h : EvNew c A kd sc e σ st ds st₁) : ExS c A kd sc (.Assign [.Name Y p] e pos) σ st .next (σ.set i (.ref st₁.length)) (st₁ ++ [.ml ds]) := by
  intro env fm own ρ s F O W V Q hQ
  refine wpAny_Assign_Name (h env fm ρ s F W V _ fun a vs nn s1 ρ1 W1 A1 ha e1 l1 => ?_) (hsw env F.kdE F.kind)
  have hf := fresh_fm W ha
  obtain ⟨W2, g2⟩ := W1.ml hf.1 e1 l1
  have A2 : Adv ρ (ρ1 ++ [a]) s s1 := ⟨A1.keep, fun q hq hn => by
    rcases List.mem_append.mp hq with hq | hq
    · exact A1.news q hq hn
    · rw [List.mem_singleton.mp hq]; exact ha, fun i b q => by
    have := A1.pre i b q
    rw [List.getElem?_append_left (List.getElem?_eq_some_iff.mp this).1]; exact this⟩
  have F1 : Fm kd sc env fm s1.heap := F.adv W A2
  have V1 := V.adv F W A2
  refine store_ok F1 O W2 V1 hx hk (.ref (i := st₁.length) ?_) fun s3 W3 A3 F3 V3 => hQ .next s3 _ W3 ((A2.up own).trans A3) F3 V3 rfl
  rw [← W1.len, List.getElem?_append_right (Nat.le_refl _)]; simp

noncomputable def swB (kd : Str → Option NameKind) (Y : Str) (p : Pos) (scope : Scope) (cp : Pos) : Bool :=
  kd Y == some .local && p.line == cp.line && !(scope.names.any fun (n, k) => n == Y && (k == .local || k == .cell))
theorem swap_is {Y : Str} {p cp : Pos} {elt : Expr} {gens : List Comprehension} {l : Nat} {env : Env} (e : env.kindOf = kd) (k : env.scope.kind = .function) :
    swapsWith (.ListComp elt gens scope cp) (some (.Name Y p)) l env = pure (swB kd Y p scope cp) := by
  show (pure (env.blockKind == .function && env.kindOf Y == some .local && p.line == cp.line && !(scope.names.any fun (n, k) => n == Y && (k == .local || k == .cell))) : Sem Bool) = _
  have : env.blockKind = .function := by unfold Env.blockKind; rw [k]; rfl
  rw [this, e]
  rfl

theorem x_swap {Y : Str} {p : Pos} {i : Nat} {elt iter : Expr} {cp : Pos} {ifs : List Expr} {out : List D} {testF : Vars → Store → Option (Bool × Store)} {eltF : Vars → Store → Option (D × Store)}
    (R : Rm n A) (hx : (Y, i) ∈ sc) (hk : kd Y = some .local ∨ kd Y = some .cell) (hs : swB kd Y p scope cp = true) (X' : CC kd sc sc' scope tv te tg) (hf : ∀ env x, foldedSetIterable iter env x = pure x)
    (h : EvE c A kd sc iter σ st d st₁) (hi : srcOf tg d = some src) (hlen : N ≤ lid) (hg : compGo testF eltF src tg σ N 0 st₁ [] = some (out, st'))
    (ht : ∀ σ st b st', testF σ st = some (b, st') → TestOk c A (relK kd scope.names) sc' ifs σ st b st')
    (he : ∀ σ st d st', eltF σ st = some (d, st') → EvE c A (relK kd scope.names) sc' elt σ st d st') :
    ExS c A kd sc (.Assign [.Name Y p] (.ListComp elt [⟨te, iter, ifs, 0⟩] scope cp) pos) σ st .next (σ.set i (.lst out)) st' := by
  intro env fm own ρ s F O W V Q hQ
  rw [show exec (.Assign [.Name Y p] (.ListComp elt [⟨te, iter, ifs, 0⟩] scope cp) pos) env = _ from exec_Assign_Name_used _ _ _ _ ((swap_is F.kdE F.kind).trans (congrArg pure hs))]
  refine wpAny_bind (wpAny_standAt (wpAny_bind ?_))
  show wpAny _ A (do let _ ← comprehension (.ListComp elt [⟨te, iter, ifs, 0⟩] scope cp) scope env _ (newList []) false (eval iter env) (some (assign (.Name Y p) env))) _ _ s
  refine wpAny_bind (wpAny_mono (comp_go (use := some (assign (.Name Y p) env)) (Q := fun _ s' => Q .next s') R X' (hf env) h hi hlen hg ht he F W V fun C a vs nn m s5 ρ5 W5 A5 hC ha hCa e5 hn l5 => ?_) (fun _ s' hq => wpAny_pure (wpAny_pure hq)) fun _ _ e => e)
  have hCf := fresh_fm W hC
  have haf := fresh_fm W ha
  have sub : ∀ q ∈ C :: fm, q ∈ C :: a :: fm := fun q hq => by
    rcases List.mem_cons.mp hq with rfl | hq
    · exact .head _
    · exact mem2 _ hq
  have W6 : Wf c (C :: fm) ρ5 st' s5 := W5.weak sub
  have g6 : Go (C :: a :: fm ++ ρ5) (C :: fm ++ ρ5) s5.heap s5.heap := (Go.refl _ _).sub fun q h => by
    rcases List.mem_append.mp h with h | h
    · exact List.mem_append_left _ (sub _ h)
    · exact List.mem_append_right _ h
  have F5 := F.adv W A5
  have V5 : Vr sc env (C :: fm) ρ5 σ s5.heap := V.go F (fun q hq o e => A5.fm_keep W hq e) ((A5.go fm).add hC) A5.pre
  have hout : Out (C :: fm ++ ρ5) s5.heap a (lstObj vs nn) := ⟨e5, fun hm => by
    rcases List.mem_append.mp hm with q | q
    · rcases List.mem_cons.mp q with q | q
      · exact hCa q.symm
      · exact haf.1 q
    · exact W5.apart a q (.tail _ (.head _))⟩
  show wpAny _ A (assign (.Name Y p) env (.ref a)) _ _ _
  refine wpAny_assign_Name (store_ok (F5.weak (mem_w C)) (O.weak (mem_w C)) W6 V5 hx hk (.lst (n := nn) hout (g6.lays (fun _ _ e => e) l5)) fun s7 W7 A7 F7 V7 => ⟨m, ?_, fun h8 hs8 => ?_⟩)
  · refine hn.at' fun o e => A7.keep _ o (fun q => ?_) e
    rcases List.mem_append.mp q with q | q
    · exact hCf.1 (O.sub _ q)
    · exact W5.apart C q (.head _)
  · have k8 : ∀ b o, b ≠ C → s7.heap.get? b = some o → h8.get? b = some o := hs8.extBut
    obtain ⟨W8, g8⟩ := W7.drop1 hCf.1 k8
    have kf : ∀ q ∈ fm, ∀ o, s7.heap.get? q = some o → h8.get? q = some o := fun q hq o e => k8 q o (fun r => hCf.1 (r ▸ hq)) e
    have A57 := (A5.up own).trans A7
    exact hQ .next _ ρ5 W8 ⟨fun b o hb e => k8 b o (get_ne e hC) (A57.keep b o hb e), A57.news, A57.pre⟩ ((F.back F7).keep kf) (V7.go (F.back F7) kf g8 fun _ _ e => e) rfl
end
end Mine.Internal
end
section
open PySem PySem.W PySem.Calls PyProof.Rows PySem.Builtin
set_option Elab.async false
set_option linter.unusedVariables false
namespace Mine.Internal

theorem Rm.deep {n : Nat} {A : Around} {env : Env} (h : Rm (n + 1) A) : Rm n (A.deeper env) := by
  refine ⟨h.1, ?_, ?_⟩
  · have := h.2.1; show A.depth + 1 + n < 900; lia
  · have := h.2.2; show A.units + 3 + 10 * n < 9000; lia

theorem cellsFrom_has : ∀ (names : List (Str × NameKind)) (n : Nat) (acc : List (Str × Addr)) (x : Str), ((x, NameKind.cell) ∈ names ∨ (acc.lookup x).isSome = true) → ((cellsFrom n names acc).lookup x).isSome = true
  | [], _, acc, x, h => by
    rcases h with h | h
    · cases h
    · exact h
  | (m, k) :: r, n, acc, x, h => by
    unfold cellsFrom
    split
    · refine cellsFrom_has r _ _ x ?_
      rcases h with h | h
      · rcases List.mem_cons.mp h with e | h
        · cases e; right; simp
        · exact .inl h
      · right
        simp only [List.lookup_cons]
        split
        · rfl
        · exact h
    · rename_i hk
      refine cellsFrom_has r _ _ x ?_
      rcases h with h | h
      · rcases List.mem_cons.mp h with e | h
        · cases e; exact absurd rfl hk
        · exact .inl h
      · exact .inr h

theorem bindL_skip (kd : Str → Option NameKind) : ∀ (bs : List (Str × Value)) (m : Str → Option Value) (x : Str), x ∉ bs.map (·.1) → bindL kd bs m x = m x
  | [], m, x, _ => rfl
  | (n, v) :: r, m, x, h => by
    simp only [List.map_cons, List.mem_cons, not_or] at h
    unfold bindL
    rw [bindL_skip kd r _ x h.2]
    split
    · simp [h.1]
    · rfl
theorem bindC_skip (kd : Str → Option NameKind) : ∀ (bs : List (Str × Value)) (m : Str → Option Value) (x : Str), x ∉ bs.map (·.1) → bindC kd bs m x = m x
  | [], m, x, _ => rfl
  | (n, v) :: r, m, x, h => by
    simp only [List.map_cons, List.mem_cons, not_or] at h
    unfold bindC
    rw [bindC_skip kd r _ x h.2]
    split
    · rfl
    · simp [h.1]

theorem setAll_get {P : Addr → Obj → Prop} {ρ : List Addr} (kd : Str → Option NameKind) : ∀ (names : List Str) (is : List Nat) (ds : List D) (vs : List Value) (σ σ' : Vars) (m mc : Str → Option Value), names.Nodup → is.Nodup → is.length = names.length → Lays P ρ vs ds →
    setAll is ds σ = some σ' → vs.length = names.length ∧ (∀ i, i ∉ is → σ'.get i = σ.get i) ∧ ∀ (x : Str) (i : Nat), (x, i) ∈ names.zip is → ∃ v d, σ'.get i = some d ∧ Lay P ρ v d ∧ (kd x = some .local → bindL kd (names.zip vs) m x = some v) ∧ (kd x ≠ some .local → bindC kd (names.zip vs) mc x = some v)
  | [], is, ds, vs, σ, σ', m, mc, _, _, hl, lv, e => by
    cases is with
    | cons => cases hl
    | nil => cases lv with
      | nil => cases e; exact ⟨rfl, fun _ _ => rfl, fun _ _ h => by cases h⟩
      | cons => cases e
  | n :: names, is, ds, vs, σ, σ', m, mc, hn, hi, hl, lv, e => by
    cases is with
    | nil => cases hl
    | cons i is =>
      cases lv with
      | nil => cases e
      | cons l lv =>
        rename_i v vs d ds
        replace e : setAll is ds (σ.set i d) = some σ' := e
        refine nng fun nG => ?_
        obtain ⟨hn1, hn2⟩ := List.nodup_cons.mp hn
        obtain ⟨hi1, hi2⟩ := List.nodup_cons.mp hi
        obtain ⟨h1, h2, h3⟩ := setAll_get kd names is ds vs (σ.set i d) σ' (if kd n = some .local then fun y => if y = n then some v else m y else m) (if kd n = some .local then mc else fun y => if y = n then some v else mc y) hn2 hi2 (Nat.succ.inj hl) lv e
        refine nG ?_
        clear nG
        have zk : ∀ vs : List Value, n ∉ (names.zip vs).map (·.1) := fun vs hm => by
          obtain ⟨p, hp, e⟩ := List.mem_map.mp hm
          exact hn1 (e ▸ (List.of_mem_zip hp).1)
        refine ⟨by simp [h1], fun j hj => ?_, fun x j hj => ?_⟩
        · simp only [List.mem_cons, not_or] at hj
          rw [h2 j hj.2, Vars.get_set, if_neg (Ne.symm hj.1)]
        · rw [List.zip_cons_cons] at hj
          rcases List.mem_cons.mp hj with e | hj
          · cases e
            refine ⟨v, d, by rw [h2 i hi1, Vars.get_set, if_pos rfl], l, fun hk => ?_, fun hk => ?_⟩
            · rw [List.zip_cons_cons]; unfold bindL
              rw [bindL_skip kd _ _ _ (zk vs), if_pos hk]; simp
            · rw [List.zip_cons_cons]; unfold bindC
              rw [bindC_skip kd _ _ _ (zk vs), if_neg hk]; simp
          · refine nng fun nG => ?_
            obtain ⟨u, e, q1, q2, q3, q4⟩ := h3 x j hj
            refine nG ?_
            clear nG
            refine ⟨u, e, q1, q2, fun hk => ?_, fun hk => ?_⟩
            · rw [List.zip_cons_cons]; unfold bindL; exact q3 hk
            · rw [List.zip_cons_cons]; unfold bindC; exact q4 hk

structure FnIs (c : Cx) (a : Addr) (fd : FuncData) (body : List Stmt) (names : List Str) (is : List Nat) (sc : List (Str × Nat)) : Prop where
  get : ∃ o, c.K.lookup a = some o ∧ o.data = .func fd
  code : codeIn c.K fd.code fd.qualname = true
  body : fd.body = .stmts body
  bind : ∀ vals : List Value, vals.length = names.length → bindArgs fd ⟨vals, []⟩ = pure (names.zip vals)
  clo : fd.closure = []
  glob : fd.globals = mainGlobals
  blt : fd.builtins = builtinsNs
  co : fd.scope.isCoroutine = false
  gen : fd.scope.isGenerator = false
  kind : fd.scope.kind = .function
  nd : names.Nodup
  ndi : is.Nodup
  len : is.length = names.length
  params : ∀ p ∈ names.zip is, p ∈ sc
  pk : ∀ x ∈ names, fd.scope.names.lookup x = some .local ∨ fd.scope.names.lookup x = some .cell
  kinds : ∀ p ∈ sc, fd.scope.names.lookup p.1 = some .local ∨ fd.scope.names.lookup p.1 = some .cell
  one : ∀ p ∈ sc, ∀ q ∈ sc, p.2 = q.2 → p.1 = q.1
  two : ∀ p ∈ sc, ∀ q ∈ sc, p.1 = q.1 → p.2 = q.2

theorem lookup_mem {x : Str} {k : NameKind} : ∀ {l : List (Str × NameKind)}, l.lookup x = some k → (x, k) ∈ l := fun h => mem_of_lookup h

noncomputable def flV (f : Flow) : Value := match f with | .ret v => v | _ => .none
section
variable {c : Cx} {A : Around} {sc : List (Str × Nat)} {σ σ' σ₁ σ₂ : Vars} {st st₁ st₂ st₃ st' : Store} {x y d : D} {n : Nat} {fm fm' own ρ ρ' : List Addr} {s s' : Shared} {h h' : Heap}

theorem enter {a : Addr} {fd : FuncData} {body : List Stmt} {names : List Str} {is : List Nat} {vs : List Value} {ds : List D} {Q : Value → Shared → Prop} (O : Ok c) (R : Rm (n + 1) A) (H : FnIs c a fd body names is sc) (W : Wf c fm ρ st s)
    (ls : Lays (Out (fm ++ ρ) s.heap) ρ vs ds) (hσ : setAll is ds [] = some σ)
    (hb : ∀ (env : Env) (own : List Addr) (s₁ : Shared), Fm (fun x => fd.scope.names.lookup x) sc env (own ++ fm) s₁.heap → Own env (own ++ fm) own → Wf c (own ++ fm) ρ st s₁ → Vr sc env (own ++ fm) ρ σ s₁.heap →
      (∀ b o, s.heap.get? b = some o → s₁.heap.get? b = some o) → (∀ q ∈ own, s.heap.get? q = none) →
      wpAny (model c.prog c.w) (A.deeper env) (execs body env) (fun f s' => Q (flV f) s') (fun _ _ => False) s₁) :
    wpAny (model c.prog c.w) A (call (.ref a) vs) Q (fun _ _ => False) s := by
  refine nng fun nG => ?_
  obtain ⟨o, hK, hd⟩ := H.get
  obtain ⟨hlen, hskip, hget⟩ := setAll_get (P := Out (fm ++ ρ) s.heap) (ρ := ρ) (fun x => fd.scope.names.lookup x) names is ds vs [] σ (fun _ => none) (fun _ => none) H.nd H.ndi H.len ls hσ
  refine nG ?_
  clear nG
  refine wpAny_call (codeAny_call_cells (fd := fd) (binds := names.zip vs) (Nat.lt_of_le_of_lt (Nat.le_add_right _ (n + 1)) (Nat.lt_trans R.2.1 (by decide))) (W.K O a o hK) hd (O.lim.keeps W.base) (codeRec_of (W.K O) H.code) H.body (H.bind vs hlen) H.clo (fun p hp => ?_) (fun s₁ X => ?_) H.co H.gen H.kind)
  · rcases H.pk p.1 (List.of_mem_zip hp).1 with q | q
    · exact .inl q
    · exact .inr ⟨q, cellsFrom_has _ _ _ _ (.inl (lookup_mem q))⟩
  · generalize hE : callEnvC fd s.heap.objs.size a = env at X ⊢
    have hkd : env.kindOf = fun x => fd.scope.names.lookup x := by rw [← hE]; rfl
    have hcl : env.cells = cellsFrom (s.heap.objs.size + 1) fd.scope.names [] := by rw [← hE]; rfl
    have hgl : env.globals = mainGlobals := by rw [← hE]; exact H.glob
    have hbl : env.builtins = builtinsNs := by rw [← hE]; exact H.blt
    have hki : env.scope.kind = .function := by rw [← hE]; exact H.kind
    let own : List Addr := env.locals :: env.cells.filterMap fun p => env.cells.lookup p.1
    have ownC : ∀ x cc, env.cells.lookup x = some cc → cc ∈ own := fun x cc e => List.mem_cons_of_mem _ (List.mem_filterMap.mpr ⟨(x, cc), mem_of_lookup e, e⟩)
    have ownI : ∀ q ∈ own, q = env.locals ∨ ∃ x, env.cells.lookup x = some q := fun q hq => by
      rcases List.mem_cons.mp hq with e | hq
      · exact .inl e
      · obtain ⟨p, _, e⟩ := List.mem_filterMap.mp hq
        exact .inr ⟨p.1, e⟩
    have above : ∀ q ∈ own, s.heap.objs.size ≤ q := fun q hq => by
      rcases ownI q hq with rfl | ⟨x, e⟩
      · exact X.toInCall.fresh
      · exact Nat.le_trans X.toInCall.fresh (Nat.le_of_lt (X.above _ _ (mem_of_lookup e)))
    have fresh : ∀ q ∈ own, s.heap.get? q = none := fun q hq => by
      cases e : s.heap.get? q with
      | none => rfl
      | some o' => exact absurd (Heap.lt_size e) (Nat.not_lt.mpr (above q hq))
    have keep := X.toInCall.keep
    have g : Go (fm ++ ρ) (own ++ fm ++ ρ) s.heap s₁.heap := ⟨fun b o' _ e => keep b o' e, fun q hq hn => by
      rcases List.mem_append.mp hq with hq | hq
      · rcases List.mem_append.mp hq with hq | hq
        · exact fresh q hq
        · exact absurd (List.mem_append_left _ hq) hn
      · exact absurd (List.mem_append_right _ hq) hn⟩
    have W1 : Wf c (own ++ fm) ρ st s₁ := by
      refine W.go X.toInCall.same g (fun b _ o' e => keep b o' e) (fun q hq => ?_) (fun q hq hm => ?_)
      · rcases List.mem_append.mp hq with hq | hq
        · rcases ownI q hq with rfl | ⟨x, e⟩
          · exact let ⟨o', _, _, r, _⟩ := X.toInCall.ns; ⟨o', r⟩
          · exact let ⟨o', r, _⟩ := X.cell x q e; ⟨o', r⟩
        · obtain ⟨o', e⟩ := W.alive q (.inl hq); exact ⟨o', keep q o' e⟩
      · rcases List.mem_append.mp hm with hm | hm
        · have := fresh q hm
          obtain ⟨o', e⟩ := W.alive q (.inr hq)
          rw [this] at e; cases e
        · exact W.apart q hq hm
    have F1 : Fm (fun x => fd.scope.names.lookup x) sc env (own ++ fm) s₁.heap := by
      refine ⟨hkd, List.mem_append_left _ (.head _), ⟨_, X.toInCall.ns⟩, hgl, hbl, hki, fun x cc e => ⟨List.mem_append_left _ (ownC x cc e), ⟨_, X.cell x cc e⟩, Nat.ne_of_gt (X.above _ _ (mem_of_lookup e))⟩,
        fun x z cc e1 e2 => name_of_addr X.apart (mem_of_lookup e1) (mem_of_lookup e2), fun p hp => ?_, H.one, H.two⟩
      rcases H.kinds p hp with q | q
      · exact .inl q
      · exact .inr ⟨.inl q, Option.isSome_iff_exists.mp (by rw [hcl]; exact cellsFrom_has _ _ _ _ (.inl (lookup_mem q)))⟩
    refine wpAny_mono (hb env own s₁ F1 ⟨.head _, ownC, fun q hq => List.mem_append_left _ hq⟩ W1 ?_ keep fresh) (fun f s' q => q) fun _ _ q => q.elim
    intro p hp e he
    by_cases hpi : p.2 ∈ is
    · refine nng fun nG => ?_
      obtain ⟨k, hk, hkk⟩ := List.mem_iff_getElem.mp hpi
      have hk' : k < names.length := by rw [← H.len]; exact hk
      have hz : (names[k], p.2) ∈ names.zip is := by
        rw [← hkk]
        exact List.mem_iff_getElem.mpr ⟨k, by rw [List.length_zip]; exact Nat.lt_min.mpr ⟨hk', hk⟩, by simp⟩
      have hx : names[k] = p.1 := H.one _ (H.params _ hz) p hp rfl
      obtain ⟨v, d', e1, l, q1, q2⟩ := hget _ _ hz
      refine nG ?_
      clear nG
      rw [he] at e1; cases e1
      refine ⟨v, ?_, g.lay (fun _ _ e => e) l⟩
      rw [hx] at q1 q2
      rcases H.kinds p hp with q | q
      · exact .inl ⟨by rw [hkd]; exact q, _, X.toInCall.ns, by rw [hkd]; exact q1 q⟩
      · obtain ⟨cc, hcc⟩ := Option.isSome_iff_exists.mp (show (env.cells.lookup p.1).isSome = true by rw [hcl]; exact cellsFrom_has _ _ _ _ (.inl (lookup_mem q)))
        refine .inr ⟨.inl (by rw [hkd]; exact q), cc, hcc, ?_⟩
        have := X.cell _ _ hcc
        rw [hkd, q2 (by simp [q])] at this
        exact this
    · rw [hskip _ hpi] at he; cases he
theorem Wf.closed (W : Wf c fm ρ st s) : Wf c (fm ++ ρ) [] [] s :=
  ⟨W.same, W.base, fun a ha => W.alive a (by rcases ha with h | h; exact List.mem_append.mp h; cases h), fun a ha => W.new a (by rcases ha with h | h; exact List.mem_append.mp h; cases h), rfl, fun i a mo e _ => by simp at e, List.nodup_nil, fun a ha => by cases ha⟩

noncomputable def flD : Fl → D
  | .ret d => d
  | _ => .none
theorem flAt_lay {P : Addr → Obj → Prop} {f : Flow} {fl : Fl} (h : FlAt P ρ f fl) : Lay P ρ (flV f) (flD fl) := by
  cases fl with
  | next => cases h; exact .none
  | brk => cases h; exact .none
  | ret d => obtain ⟨v, rfl, l⟩ := h; exact l

theorem call_closed {a : Addr} {fd : FuncData} {body : List Stmt} {names : List Str} {is : List Nat} {ds : List D} {fl : Fl} {d' : D} {m : Nat} (O : Ok c) (R : Rm (n + 1) A) (H : FnIs c a fd body names is sc) (hd0 : D.refsLts 0 ds = true) (hσ : setAll is ds [] = some σ)
    (hr : frz st' m (flD fl) = some d') (hb : ∀ A, Rm n A → ExL c A (fun x => fd.scope.names.lookup x) sc body σ [] fl σ' st') : CallE c A (.ref a) ds st d' st := by
  intro fm ρ s vs W ls Q hQ
  have ls0 : Lays (Out (fm ++ ρ ++ []) s.heap) [] vs ds := by
    have := ls.cut hd0
    rw [List.append_nil]; exact this
  refine enter O R H W.closed ls0 hσ fun env own s₁ F1 O1 W1 V1 keep fresh => ?_
  refine hb _ R.deep env _ own [] s₁ F1 O1 W1 V1 _ fun f s2 ρ2 W2 A2 F2 V2 hf => ?_
  have k2 : ∀ b o, s.heap.get? b = some o → s2.heap.get? b = some o := fun b o e => A2.keep b o (fun q => by
    rcases List.mem_append.mp q with q | q
    · rw [fresh b q] at e; cases e
    · cases q) (keep b o e)
  have gk : Go (fm ++ ρ) (fm ++ ρ) s.heap s2.heap := ⟨fun b o _ e => k2 b o e, fun _ h n => absurd h n⟩
  have W3 : Wf c fm ρ st s2 := by
    refine W.goG ?_ gk (fun b _ o e => k2 b o e) (fun b hb => let ⟨o, e⟩ := W.alive b (.inl hb); ⟨o, k2 b o e⟩) W.apart
    refine nng fun nG => ?_
    obtain ⟨h1, t1, g1, e1, hg1⟩ := W.same
    obtain ⟨h2, t2, g2, e2, hg2⟩ := W2.same
    refine nG ?_
    clear nG
    exact ⟨h2, t2, g2, by rw [e2, e1], fun _ => hg2⟩
  have A3 : Adv ρ ρ s s2 := ⟨fun b o _ e => k2 b o e, fun _ h n => absurd h n, fun _ _ e => e⟩
  refine hQ _ s2 ρ W3 A3 (frz_ok W2 (fun b o q => ⟨q.1, fun hm => q.2 ?_⟩) (fun b o hb e => ⟨e, fun hm => ?_⟩) m (flAt_lay hf) hr)
  · exact List.mem_append_left _ (List.mem_append_right _ hm)
  · exact W2.apart b hb (List.mem_append_right _ hm)

theorem call_open {a : Addr} {fd : FuncData} {body : List Stmt} {names : List Str} {is : List Nat} {ds : List D} {fl : Fl} (O : Ok c) (R : Rm (n + 1) A) (H : FnIs c a fd body names is sc) (hσ : setAll is ds [] = some σ)
    (hb : ∀ A, Rm n A → ExL c A (fun x => fd.scope.names.lookup x) sc body σ st fl σ' st') : CallE c A (.ref a) ds st (flD fl) st' := by
  intro fm ρ s vs W ls Q hQ
  refine enter O R H W ls hσ fun env own s₁ F1 O1 W1 V1 keep fresh => ?_
  refine hb _ R.deep env _ own ρ s₁ F1 O1 W1 V1 _ fun f s2 ρ2 W2 A2 F2 V2 hf => ?_
  have gw : ∀ q ∈ fm ++ ρ2, q ∈ own ++ fm ++ ρ2 := fun q hq => by
    rcases List.mem_append.mp hq with h | h
    · exact List.mem_append_left _ (List.mem_append_right _ h)
    · exact List.mem_append_right _ h
  refine hQ _ s2 ρ2 (W2.weak fun q hq => List.mem_append_right _ hq) ⟨fun b o hb e => A2.keep b o (fun q => ?_) (keep b o e), fun q hq hn => ?_, A2.down⟩ ((flAt_lay hf).mono (fun b o q => ⟨q.1, fun hm => q.2 (gw b hm)⟩) fun _ _ e => e)
  · rcases List.mem_append.mp q with q | q
    · rw [fresh b q] at e; cases e
    · exact hb q
  · have h1 : s₁.heap.get? q = none := A2.news q (List.mem_append_right _ hq) fun r => by
      rcases List.mem_append.mp r with r | r
      · exact W2.apart q hq (List.mem_append_left _ r)
      · exact hn r
    cases e : s.heap.get? q with
    | none => rfl
    | some o => rw [keep q o e] at h1; cases h1
end
end Mine.Internal
end
section
open PySem PySem.W PySem.Calls PyProof.Rows PySem.Builtin
set_option Elab.async false
set_option linter.unusedVariables false
set_option maxRecDepth 100000
namespace Mine.Internal

theorem ln_split : splitId "list.__new__" = some ("list", "__new__") := by decide +kernel
theorem ln_kind : builtinKind "list.__new__" = some .builtinFn := by decide +kernel
theorem ln_row : ∃ sig, Manifest.signature? "list.__new__" = some sig ∧ ∀ a, Bind.checkArgs "list.__new__" sig ⟨[a], []⟩ = pure () := by
  refine ⟨⟨.any, "list", "list", .cls, [⟨"args", .varPos, false⟩, ⟨"kwargs", .varKw, false⟩]⟩, by kernel_rfl, fun a => by kernel_rfl⟩

structure Kls (M : Model) (h : Heap) (C : Addr) : Prop where
  obj : ∃ oC cd, h.get? C = some oC ∧ oC.data = .cls cd ∧ cd.hasDel = false
  base : Looks M h (Bind.staticBase (.ref C)) (.ref C)
  made : Looks M h (Bind.madeBy (.ref C)) (some "list.__new__")
  sub : Looks M h (isSubtype (.ref C) (.type "list")) true
  self : Looks M h (isSubtype (.ref C) (.ref C)) true
  call : Looks M h (specialOf (.ref C) "__call__") (some (.builtin "type.__call__"))
  typ : Looks M h (isInstance (.ref C) (.type "type")) true
  mro : ∃ l, Looks M h (mroOf (.ref C)) l ∧ l.isEmpty = false

section
variable {prog : Program} {w : World} {A : Around} {C : Addr} {R : Result → Shared → Prop} {h : Heap} {g : Array GenState} {d : Drawn} {t : Nat} {os : OsState}

noncomputable abbrev seqObj (C dx : Addr) : Obj := { cls := .ref C, dict := some dx, data := .seq #[] }
theorem new_list (Y : Kls (model prog w) h C)
    (hq : R (.ok (.ret (.ref (h.objs.size + 1)))) ⟨(h.push emptyDict).push (seqObj C h.objs.size), g, d, t, os⟩) :
    codeAny (model prog w) A (.call (.builtin "list.__new__") ⟨[.ref C], []⟩) R ⟨h, g, d, t, os⟩ := by
  refine nng fun nG => ?_
  obtain ⟨⟨oC, cd, hC, hcd, hdel⟩, base, made, sub, self, call, typ, mro⟩ := Y
  obtain ⟨sig, hsig, hchk⟩ := ln_row
  refine nG ?_
  clear nG
  refine codeAny_call_builtin_code (plainId_quiet F.plain_list_new _) ?_
  unfold checkBuiltinCall
  rw [ln_split, hsig, ln_kind]
  dsimp only
  refine wpAny_bind (ks_wpAny_isType_cls hC hcd ?_)
  rw [if_neg (by decide)]
  refine wpAny_bind (sub.at ?_)
  rw [if_neg (by decide)]
  refine wpAny_bind (base.at (wpAny_bind (made.at ?_)))
  show wpAny _ _ (if (Manifest.canonical "list.__new__" != Manifest.canonical "list.__new__") = true then _ else _) _ _ _
  rw [if_neg (by rw [bne_self_eq_false]; decide), hchk]
  refine wpAny_pure ?_
  refine codeAny_builtin_stack PySem.F.entry_list_new rfl fun p st => ?_
  rw [Around.under_plainId PySem.F.plain_list_new _]
  have hown := owner_list_new
  dsimp only
  rw [hown]
  refine wpAny_bind (ks_wpAny_isType_cls hC hcd ?_)
  rw [if_neg (by decide)]
  refine wpAny_bind (sub.at ?_)
  rw [if_neg (by decide)]
  refine wpAny_bind (wpAny_pure ?_)
  rw [if_neg (show ¬ (!typeHasDict (.ref C)) = true from fun e => Bool.noConfusion e)]
  refine wpAny_bind (wpAny_newObj_type ?_)
  show wpAny _ _ (newObj (.ref C) (.seq #[]) (some h.objs.size) >>= _) _ _ _
  have k1 : ∀ b o, h.get? b = some o → (h.push { cls := .type "dict", dict := none, data := .dict #[] }).get? b = some o := fun b o e => Heap.get?_push_of_some _ e
  refine wpAny_bind ?_
  show wpAny _ _ (newObjAsIs (.ref C) (.seq #[]) (some h.objs.size)) _ _ _
  unfold newObjAsIs classHasDel
  refine wpAny_bind (wpAny_alloc (wpAny_bind (wpAny_bind (wpAny_load (Heap.get?_push_of_some _ (k1 _ _ hC)) ?_))))
  rw [hcd]
  refine wpAny_pure ?_
  rw [hdel]
  refine wpAny_pure (wpAny_pure ?_)
  show R _ _
  rw [Heap.size_push]
  exact hq

theorem make_list {fI : Addr} {n : Nat} (Y : Kls (model prog w) h C) (hi : Looks (model prog w) h (typeLookup (.ref C) "__init__") (some (.ref fI))) (hb : ∀ self, Looks (model prog w) h (bindSpecial (.ref fI) self) (.ref fI, [self]))
    (hq : codeAny (model prog w) (A.under (.builtin "type.__call__" ⟨[.ref C], []⟩)) (.call (.ref fI) ⟨[.ref (h.objs.size + 1)], []⟩) (InitBack (h.objs.size + 1) R) ⟨(h.push emptyDict).push (seqObj C h.objs.size), g, d, t, os⟩) :
    codeAny (model prog w) A (.call (.ref C) ⟨[], []⟩) R ⟨h, g, d, t, os⟩ := by
  have Y' := Y
  refine nng fun nG => ?_
  obtain ⟨⟨oC, cd, hC, hcd, hdel⟩, base, made, sub, self, call, typ, l, hm, hl⟩ := Y
  refine nG ?_
  clear nG
  refine codeAny_of_tree ?_
  show wpAny _ _ (callAny (.ref C) _) _ _ _
  refine nd_load hC ?_
  show wpAny _ _ (match oC.data with | .func fd => callFunction C fd ⟨[], []⟩ | .fields vs => _ | _ => callAny.viaDunder (.ref C) ⟨[], []⟩) _ _ _
  rw [hcd]
  show wpAny _ _ (callAny.viaDunder (.ref C) _) _ _ _
  unfold callAny.viaDunder
  refine wpAny_bind (call.at ?_)
  dsimp only
  rw [tc_bind]
  refine wpAny_bind (wpAny_pure (wpAny_bind (wpAny_pure ?_)))
  refine wpAny_pure (a := Fin.again (.call (.builtin "type.__call__") ⟨[.ref C], []⟩)) (And.intro rfl ?_)
  refine codeAny_call_builtin_at (Code.quiet_builtin _ (by decide +kernel)) entry_typeCall (check_slot tc_kind tc_split typ (tc_args _ _ _) ?_)
  unfold Builtin.«type.__call__»
  repeat (first | with_reducible refine wpAny_call ?_ | lk | rw [if_neg Bool.false_ne_true] | rw [hl])
  refine new_list Y' ?_
  have k : ∀ b o, h.get? b = some o → ((h.push emptyDict).push (seqObj C h.objs.size)).get? b = some o := fun b o e => Heap.get?_push_of_some _ (Heap.get?_push_of_some _ e)
  have hx : ((h.push emptyDict).push (seqObj C h.objs.size)).get? (h.objs.size + 1) = some (seqObj C h.objs.size) := by heap_get
  have t1 : Looks (model prog w) ((h.push emptyDict).push (seqObj C h.objs.size)) (typeOf (.ref (h.objs.size + 1))) (.ref C) := (Looks.ld hx).andThen .now
  have s1 := self.keeps k
  have i1 := hi.keeps k
  have b1 := (hb (.ref (h.objs.size + 1))).keeps k
  unfold isInstance callSpecial? specialOf
  repeat (first | with_reducible refine wpAny_call ?_ | lk)
  refine codeAny_mono hq fun r s' z => ?_
  rcases r with e | (v | _ | _ | _) <;> first | exact z | exact z.elim | skip
  obtain ⟨rfl, z⟩ := z
  exact wpAny_pure (wpAny_pure z)
end
end Mine.Internal
end
section
open PySem PySem.W PySem.Calls PyProof.Rows PySem.Builtin
set_option Elab.async false
set_option linter.unusedVariables false
set_option maxRecDepth 100000
namespace Mine.Internal

theorem slot_mdget : Slot "method_descriptor" "__get__" "method_descriptor.__get__" := .of (owner := "method_descriptor") (n := "__get__") (by rw [typeLookup_type, builtinLookup_eq_fast]; kernel_rfl) (by decide +kernel) (by decide +kernel) (by decide +kernel)
  (by first | exact .inl (by decide +kernel) | exact .inr (by decide +kernel)) (by rw [isSubtype_type]; kernel_rfl)
theorem entry_mdget : entryFor table "method_descriptor.__get__" = some Builtin.«method_descriptor.__get__» := entryFor_of_tree (by kernel_rfl)
theorem args_mdget (a b c : Value) : argsOk "method_descriptor.__get__" ⟨[a, b, c], []⟩ := by unfold argsOk; kernel_rfl
theorem slot_wdget : Slot "wrapper_descriptor" "__get__" "wrapper_descriptor.__get__" := .of (owner := "wrapper_descriptor") (n := "__get__") (by rw [typeLookup_type, builtinLookup_eq_fast]; kernel_rfl) (by decide +kernel) (by decide +kernel) (by decide +kernel)
  (by first | exact .inl (by decide +kernel) | exact .inr (by decide +kernel)) (by rw [isSubtype_type]; kernel_rfl)
theorem entry_wdget : entryFor table "wrapper_descriptor.__get__" = some Builtin.«wrapper_descriptor.__get__» := entryFor_of_tree (by kernel_rfl)
theorem args_wdget (a b c : Value) : argsOk "wrapper_descriptor.__get__" ⟨[a, b, c], []⟩ := by unfold argsOk; kernel_rfl
theorem type_pop : typeOf (.builtin "list.pop") = pure (.type "method_descriptor") := by show builtinType _ = _; rw [builtinType_eq_fast]; kernel_rfl
theorem type_len : typeOf (.builtin "list.__len__") = pure (.type "wrapper_descriptor") := by show builtinType _ = _; rw [builtinType_eq_fast]; kernel_rfl
theorem type_linit : typeOf (.builtin "list.__init__") = pure (.type "wrapper_descriptor") := by show builtinType _ = _; rw [builtinType_eq_fast]; kernel_rfl

noncomputable abbrev boundObj (T id : String) (x : Addr) : Obj := { cls := .type T, data := .fields #[.builtin id, .ref x] }
section
variable {prog : Program} {w : World} {A : Around} {E : Value → Shared → Prop} {C x : Addr} {h : Heap} {g : Array GenState} {d : Drawn} {t : Nat} {os : OsState}

theorem md_pop {Q : Value → Shared → Prop} {s : Shared} (ht : Looks (model prog w) s.heap (isInstance (.ref x) (.type "list")) true)
    (hq : Q (.ref s.heap.objs.size) { s with heap := s.heap.push (boundObj "builtin_function_or_method" "list.pop" x) }) :
    wpAny (model prog w) A (call (.builtin "method_descriptor.__get__") [.builtin "list.pop", .ref x, .ref C]) Q E s := by
  refine wpAny_call_entry slot_mdget (show s.TypeIs (.builtin "list.pop") "method_descriptor" from type_pop) entry_mdget ?_ (args_mdget _ _ _)
  have hc : (Manifest.toldItsClass.contains "list.pop") = false := by decide +kernel
  unfold Builtin.«method_descriptor.__get__»
  obtain ⟨h, g, d, t, os⟩ := s
  refine wpAny_bind (wpAny_bind (wpAny_pure ?_))
  refine wpAny_pure (a := (Value.builtin "list.pop", some (Value.ref x), some (Value.ref C))) ?_
  dsimp only
  rw [hc]
  rw [if_neg (by decide)]
  refine wpAny_bind ?_
  show wpAny _ _ (isInstance (.ref x) (.type "list") >>= _) _ _ _
  refine wpAny_bind (ht.at ?_)
  refine wpAny_pure ?_
  refine wpAny_bind (wpAny_newObj_type ?_)
  exact wpAny_pure ⟨_, rfl, hq⟩
theorem wd_get {Q : Value → Shared → Prop} {s : Shared} {id : String} (hid : id = "list.__len__" ∨ id = "list.__init__") (ht : Looks (model prog w) s.heap (isInstance (.ref x) (.type "list")) true)
    (hq : Q (.ref s.heap.objs.size) { s with heap := s.heap.push (boundObj "method-wrapper" id x) }) :
    wpAny (model prog w) A (call (.builtin "wrapper_descriptor.__get__") [.builtin id, .ref x, .ref C]) Q E s := by
  obtain ⟨h, g, d, t, os⟩ := s
  rcases hid with rfl | rfl
  · refine wpAny_call_entry slot_wdget (show Shared.TypeIs _ (.builtin "list.__len__") "wrapper_descriptor" from type_len) entry_wdget ?_ (args_wdget _ _ _)
    unfold Builtin.«wrapper_descriptor.__get__»
    refine wpAny_bind (wpAny_bind (wpAny_pure ?_))
    refine wpAny_pure (a := (Value.builtin "list.__len__", some (Value.ref x), some (Value.ref C))) ?_
    refine wpAny_bind ?_
    show wpAny _ _ (isInstance (.ref x) (.type "list") >>= _) _ _ _
    refine wpAny_bind (ht.at ?_)
    refine wpAny_pure ?_
    refine wpAny_bind (wpAny_newObj_type ?_)
    exact wpAny_pure ⟨_, rfl, hq⟩
  · refine wpAny_call_entry slot_wdget (show Shared.TypeIs _ (.builtin "list.__init__") "wrapper_descriptor" from type_linit) entry_wdget ?_ (args_wdget _ _ _)
    unfold Builtin.«wrapper_descriptor.__get__»
    refine wpAny_bind (wpAny_bind (wpAny_pure ?_))
    refine wpAny_pure (a := (Value.builtin "list.__init__", some (Value.ref x), some (Value.ref C))) ?_
    refine wpAny_bind ?_
    show wpAny _ _ (isInstance (.ref x) (.type "list") >>= _) _ _ _
    refine wpAny_bind (ht.at ?_)
    refine wpAny_pure ?_
    refine wpAny_bind (wpAny_newObj_type ?_)
    exact wpAny_pure ⟨_, rfl, hq⟩
end
end Mine.Internal
end
section
open PySem PySem.W PySem.Calls PyProof.Rows PySem.Builtin
set_option Elab.async false
set_option linter.unusedVariables false
set_option maxRecDepth 100000
namespace Mine.Internal
open PySem.F

inductive LAttr : Str → String → String → Prop
  | pop : LAttr "pop" "list.pop" "builtin_function_or_method"
  | len : LAttr "__len__" "list.__len__" "method-wrapper"
  | init : LAttr "__init__" "list.__init__" "method-wrapper"
theorem gets_md : typeLookup (.type "method_descriptor") "__get__" = pure (some (.builtin "method_descriptor.__get__")) := slot_mdget.lookup
theorem gets_wd : typeLookup (.type "wrapper_descriptor") "__get__" = pure (some (.builtin "wrapper_descriptor.__get__")) := slot_wdget.lookup

section
variable {prog : Program} {w : World} {A : Around} {E : Value → Shared → Prop} {C x so : Addr} {h : Heap} {g : Array GenState} {d : Drawn} {t : Nat} {os : OsState}
theorem super_ga {K : Frag} {name : Str} {id T : String} {tk : Tok} {Q : Fin → Shared → Prop} (H : LAttr name id T)
    (hso : h.get? so = some { cls := .type "super", dict := none, data := .fields #[.ref C, .ref x, .ref C], slots := #[] }) (hno : Looks (model prog w) h (opaqueClassAbove (.ref C)) none)
    (hC : Looks (model prog w) h (mroOf (.ref C)) [.ref C, .type "list", .type "object"]) (X : K.In h)
    (hf : alongIn K name [.type "list", .type "object"] = some (some (.builtin id))) (hxC : x ≠ C) (hn : (name == ("__class__" : Str)) = false)
    (ht : Looks (model prog w) h (isInstance (.ref x) (.type "list")) true)
    (hq : Q (.done (.ret (.ref h.objs.size))) ⟨h.push (boundObj T id x), g, d, t, os⟩) :
    wpAny (model prog w) A (Builtin.«super.__getattribute__» ⟨[.ref so, .str name tk], []⟩) Q E ⟨h, g, d, t, os⟩ := by
  have hne : (Value.ref x == Value.ref C) = false := by simp [hxC]
  have hdt : ({ cls := .type "super", dict := none, data := .fields #[.ref C, .ref x, .ref C], slots := #[] } : Obj).data = .fields #[.ref C, .ref x, .ref C] := rfl
  have f0 : (#[.ref C, .ref x, .ref C] : Array Value)[0]? = some (.ref C) := rfl
  have f1 : (#[.ref C, .ref x, .ref C] : Array Value)[1]? = some (.ref x) := rfl
  have f2 : (#[.ref C, .ref x, .ref C] : Array Value)[2]? = some (.ref C) := rfl
  have hl : (([.ref C, .type "list", .type "object"] : List Value).dropWhile (· != .ref C)).drop 1 = [.type "list", .type "object"] := by simp [List.dropWhile]
  unfold Builtin.«super.__getattribute__»
  repeat (first
    | (with_reducible refine wpAny_field hso hdt f0 ?_) | (with_reducible refine wpAny_field hso hdt f1 ?_) | (with_reducible refine wpAny_field hso hdt f2 ?_)
    | (with_reducible refine ks_wpAny_notOpaque hno ?_)
    | (with_reducible refine Looks.at hC ?_; rw [hl])
    | (refine ks_forIn_along X (fun _ _ => rfl) rfl ?_ hf)
    | rw [if_neg Bool.false_ne_true] | rw [hn] | rw [hne] | rw [Bool.or_false]
    | wp_step
    | dsimp only)
  cases H
  · show wpAny _ _ (typeOf (.builtin "list.pop")) _ _ _
    rw [type_pop]
    refine wpAny_pure (wpAny_bind ?_)
    rw [gets_md]
    refine wpAny_pure (wpAny_bind (wpAny_holding (md_pop (s := ⟨h, g, d, t, os⟩) ht ?_)))
    exact wpAny_bind (wpAny_pure (wpAny_pure (wpAny_pure hq)))
  · show wpAny _ _ (typeOf (.builtin "list.__len__")) _ _ _
    rw [type_len]
    refine wpAny_pure (wpAny_bind ?_)
    rw [gets_wd]
    refine wpAny_pure (wpAny_bind (wpAny_holding (wd_get (s := ⟨h, g, d, t, os⟩) (.inl rfl) ht ?_)))
    exact wpAny_bind (wpAny_pure (wpAny_pure (wpAny_pure hq)))
  · show wpAny _ _ (typeOf (.builtin "list.__init__")) _ _ _
    rw [type_linit]
    refine wpAny_pure (wpAny_bind ?_)
    rw [gets_wd]
    refine wpAny_pure (wpAny_bind (wpAny_holding (wd_get (s := ⟨h, g, d, t, os⟩) (.inr rfl) ht ?_)))
    exact wpAny_bind (wpAny_pure (wpAny_pure (wpAny_pure hq)))

theorem super_method {K : Frag} {name : Str} {id T : String} {pl : Sem Bool} {Q : Value × List Value → Shared → Prop} (H : LAttr name id T)
    (hso : h.get? so = some { cls := .type "super", dict := none, data := .fields #[.ref C, .ref x, .ref C], slots := #[] }) (hno : Looks (model prog w) h (opaqueClassAbove (.ref C)) none)
    (hC : Looks (model prog w) h (mroOf (.ref C)) [.ref C, .type "list", .type "object"]) (X : K.In h)
    (hf : alongIn K name [.type "list", .type "object"] = some (some (.builtin id))) (hxC : x ≠ C) (hn : (name == ("__class__" : Str)) = false)
    (ht : Looks (model prog w) h (isInstance (.ref x) (.type "list")) true)
    (hq : Q (.ref h.objs.size, []) ⟨h.push (boundObj T id x), g, d, t + 1, os⟩) :
    wpAny (model prog w) A (getMethod (.ref so) name pl) Q E ⟨h, g, d, t, os⟩ := by
  have hlk := ks_slot_super_ga.lookup
  have hcan := ks_canon_super_ga
  have hT : ∀ t', (⟨h, g, d, t', os⟩ : Shared).TypeIs (.ref so) "super" := fun _ => ⟨_, hso, rfl⟩
  unfold getMethod
  refine wpAny_bind (wpAny_specialOf (hT _) hlk ?_)
  show wpAny _ _ (if (Manifest.canonical "super.__getattribute__" != "object.__getattribute__") = true then _ else _) _ _ _
  rw [if_pos hcan]
  unfold getAttr getAttrBy
  refine wpAny_bind (wpAny_bind (wpAny_mkText (wpAny_holding (wpAny_bind (wpAny_typeOf (hT _) (wpAny_bind (wpAny_of_eq hlk ?_)))))))
  show wpAny _ _ (getAttrByItsOwn (.ref so) (.str name t) (.type "super") (.builtin "super.__getattribute__") true false) _ _ _
  unfold getAttrByItsOwn hookBefore callGetattribute boundAndCalled
  refine wpAny_bind (wpAny_of_eq (show (if onTheHeap (.type "super") then typeLookup (.type "super") "__getattr__" else pure none) = pure none from rfl) ?_)
  refine wpAny_bind (wpAny_attempt (wpAny_holding ?_))
  show wpAny _ _ (bindSpecial (.builtin "super.__getattribute__") (.ref so) >>= _) _ _ _
  refine wpAny_bind (wpAny_of_eq (ks_slot_super_ga.bind _) ?_)
  refine wpAny_mono (Q := fun v s' => v = .ref h.objs.size ∧ s' = ⟨h.push (boundObj T id x), g, d, t + 1, os⟩) (E := fun _ _ => False)
    (wpAny_call_entry ks_slot_super_ga (hT _) ks_entry_super_ga (super_ga H hso hno hC X hf hxC hn ht ⟨_, rfl, rfl, rfl⟩) (ks_gaArgs_super _ _)) (fun v s' hv => ?_) fun _ _ z => z.elim
  obtain ⟨rfl, rfl⟩ := hv
  exact wpAny_pure (wpAny_pure hq)
end
end Mine.Internal
end
section
open PySem PySem.W PySem.Calls PyProof.Rows PySem.Builtin
set_option Elab.async false
set_option linter.unusedVariables false
set_option maxRecDepth 100000
namespace Mine.Internal
open PySem.F

theorem entry_pop : entryFor table "list.pop" = some Builtin.«list.pop» := entryFor_of_tree (by kernel_rfl)
theorem entry_len : entryFor table "list.__len__" = some Builtin.«list.__len__» := entryFor_of_tree (by kernel_rfl)
theorem entry_linit : entryFor table "list.__init__" = some Builtin.«list.__init__» := entryFor_of_tree (by kernel_rfl)
theorem bc_len (a : Value) : checkBoundCall "list.__len__" ⟨[a], []⟩ = pure () := by kernel_rfl
theorem bc_init (a : Value) : checkBoundCall "list.__init__" ⟨[a], []⟩ = pure () := by kernel_rfl

section
variable {prog : Program} {w : World} {A : Around} {E : Value → Shared → Prop} {C x q : Addr} {s : Shared} {pos : Pos}

theorem bound_keeper {T id : String} {h : Heap} (hT : T = "builtin_function_or_method" ∨ T = "method-wrapper") (hq : h.get? q = some (boundObj T id x)) : ∃ k, (k = Keeper.frame ∨ k = Keeper.machine ∨ k = Keeper.boundFrame) ∧ Looks (model prog w) h (keeperOf (.ref q)) k := by
  refine ⟨.machine, .inr (.inl rfl), (Looks.ld (part := none) hq).andThen ?_⟩
  rcases hT with rfl | rfl <;> exact Looks.of_pure (by kernel_rfl)
theorem bound_call {T id : String} {B : Builtin} {Q : Value → Shared → Prop} (hT : T = "builtin_function_or_method" ∨ T = "method-wrapper") (hb : entryFor table id = some B) (hpl : plainId id = true) (hq : s.heap.get? q = some (boundObj T id x))
    (hc : wpAny (model prog w) A.in1 (checkBoundCall id ⟨[.ref x], []⟩) (fun _ s' => s' = s) E s)
    (h : wpAny (model prog w) A.in1 (B ⟨[.ref x], []⟩) (fun fin s' => ∃ v, fin = .done (.ret v) ∧ Q v s') E s) :
    wpAny (model prog w) A (callWith pos (.ref q) [] [] []) Q E s := by
  refine callWith_of (P := fun h => h.get? q = some (boundObj T id x)) rfl (fun h hq => bound_keeper hT hq) (PyProof.Rows.evalArgs_none ⟨hq, ?_⟩)
  refine wpAny_call (codeAny_of_tree ?_)
  show wpAny _ A.in1 (callAny (.ref q) ⟨[], []⟩) _ _ _
  refine wpAny_bind (wpAny_load hq ?_)
  have e : ∀ T, T = "builtin_function_or_method" ∨ T = "method-wrapper" → ((Value.type T == .type "method" || Value.type T == .type "builtin_function_or_method" || Value.type T == .type "method-wrapper") = true ∧ (Value.type T != .type "method") = true) := by
    intro T hT; rcases hT with rfl | rfl <;> exact ⟨by decide, by decide⟩
  obtain ⟨e1, e2⟩ := e T hT
  show wpAny _ _ (if (Value.type T == .type "method" || Value.type T == .type "builtin_function_or_method" || Value.type T == .type "method-wrapper") = true then _ else _) _ _ _
  rw [if_pos e1]
  show wpAny _ _ (if (Value.type T != .type "method") = true then _ else _) _ _ _
  rw [if_pos e2]
  refine wpAny_bind (wpAny_mono hc (fun _ s' e => ?_) fun _ _ e => e)
  subst e
  refine wpAny_pure ⟨plainId_quiet hpl _, codeAny_builtin hb ?_⟩
  rw [Around.under_plainId hpl _]
  refine wpAny_mono h (fun fin s' q => ?_) fun _ _ q => q
  obtain ⟨v, rfl, q⟩ := q
  exact q

theorem len_body {o : Obj} {its : Array Value} {n : Nat} {Q : Value → Shared → Prop} (ho : s.heap.get? x = some o) (hd : o.data = .seq its n) (hq : ∀ t k, Q (.int its.size t) { s with toks := k }) :
    wpAny (model prog w) A (Builtin.«list.__len__» ⟨[.ref x], []⟩) (fun fin s' => ∃ v, fin = .done (.ret v) ∧ Q v s') E s := by
  show wpAny _ _ (seqSize x >>= _) _ _ _
  unfold seqSize
  refine wpAny_bind (wpAny_bind (wpAny_loadPart ho ?_))
  rw [hd]
  refine wpAny_pure ?_
  exact fun _ _ _ => ⟨_, rfl, hq _ _⟩
theorem init_body {o : Obj} {n : Nat} {Q : Value → Shared → Prop} (ho : s.heap.get? x = some o) (hd : o.data = .seq #[] n) (hq : ∀ h', Heap.SameBut x s.heap h' → h'.get? x = some (o.mapSeq fun _ => #[]) → Q .none { s with heap := h' }) :
    wpAny (model prog w) A (Builtin.«list.__init__» ⟨[.ref x], []⟩) (fun fin s' => ∃ v, fin = .done (.ret v) ∧ Q v s') E s := by
  show wpAny _ _ (List.listItems (.ref x) >>= _) _ _ _
  unfold List.listItems
  refine wpAny_bind (wpAny_bind (wpAny_seqItems ho hd (wpAny_pure ?_)))
  show wpAny _ _ (updateSeq x (fun _ => #[]) >>= _) _ _ _
  refine wpAny_bind (wpAny_updateSeq ho hd ?_ (by simp [sizeLine]) (by simp [sizeLine]))
  refine wpAny_bind (wpAny_pure ?_)
  refine wpAny_pure ⟨_, rfl, hq _ (Heap.SameBut.update ..) ?_⟩
  have : (o.mapSeq fun _ => #[]).isFreed = false := by
    obtain ⟨n', e⟩ := Obj.data_mapSeq hd (fun _ => #[])
    exact Obj.isFreed_of_seq e
  exact Heap.get?_update_self _ ho this
theorem pop_body {o : Obj} {its : Array Value} {n : Nat} {v : Value} {Q : Value → Shared → Prop} (ho : s.heap.get? x = some o) (hd : o.data = .seq its n) (hv : its[its.size - 1]? = some v) (hsz : its.size ≤ 10000000)
    (hq : ∀ h', Heap.SameBut x s.heap h' → h'.get? x = some (o.mapSeq (·.eraseIdxIfInBounds (its.size - 1))) → Q v { s with heap := h' }) :
    wpAny (model prog w) A (Builtin.«list.pop» ⟨[.ref x], []⟩) (fun fin s' => ∃ v, fin = .done (.ret v) ∧ Q v s') E s := by
  have h0 : 0 < its.size := by
    have := (Array.getElem?_eq_some_iff.mp hv).1; lia
  show wpAny _ _ (List.listItems (.ref x) >>= _) _ _ _
  unfold List.listItems
  refine wpAny_bind (wpAny_bind (wpAny_seqItems ho hd (wpAny_pure ?_)))
  have hne : ¬ its.isEmpty = true := fun e => by rw [Array.isEmpty_iff_size_eq_zero] at e; lia
  rw [if_neg hne]
  have hi : seqIndex? (-1) its.size = some (its.size - 1) := by
    unfold seqIndex?
    have e1 : (if (-1 : Int) < 0 then -1 + (its.size : Int) else -1) = -1 + (its.size : Int) := if_pos (by decide)
    simp only [e1]
    rw [if_pos (by rw [Bool.and_eq_true, decide_eq_true_eq, decide_eq_true_eq]; lia)]
    congr 1
    lia
  rw [hi]
  show wpAny _ _ (match (its[its.size - 1]?).map (its.size - 1, ·) with | some (k, y) => _ | none => _) _ _ _
  rw [hv]
  show wpAny _ _ (updateSeq x (·.eraseIdxIfInBounds (its.size - 1)) >>= _) _ _ _
  refine wpAny_bind (wpAny_updateSeq ho hd ?_ (Nat.le_trans hsz (by decide)) ?_)
  · refine wpAny_pure ⟨_, rfl, hq _ (Heap.SameBut.update ..) ?_⟩
    have : (o.mapSeq (·.eraseIdxIfInBounds (its.size - 1))).isFreed = false := by
      obtain ⟨n', e⟩ := Obj.data_mapSeq hd (·.eraseIdxIfInBounds (its.size - 1))
      exact Obj.isFreed_of_seq e
    exact Heap.get?_update_self _ ho this
  · have h1 : (10000000 : Nat) ≤ sizeLine := by decide
    have h2 : (its.eraseIdxIfInBounds (its.size - 1)).size ≤ its.size := by
      unfold Array.eraseIdxIfInBounds
      split
      · rw [Array.size_eraseIdx]; lia
      · lia
    lia
end
end Mine.Internal
end
section
open PySem PySem.W PySem.Calls PyProof.Rows PySem.Builtin
set_option Elab.async false
set_option linter.unusedVariables false
set_option maxRecDepth 100000
namespace Mine.Internal
open PySem.F

structure ClsK (K : Frag) (C : Addr) : Prop where
  cls : ∃ oc od cd sl, K.lookup C = some ⟨oc, od, .cls cd, sl⟩ ∧ cd.mro = [.ref C, .type "list", .type "object"] ∧ cd.hasDel = false ∧ cd.hasDict = true ∧ oc = .type "type" ∧ (sl.toList[4]?).join = some (.builtin "list.__new__")
  call : specialIn K (.ref C) "__call__" = some (some (.builtin "type.__call__"))
  typ : instIn K (.ref C) (.type "type") = some true
  ga : findIn K (.ref C) "__getattribute__" = some (some (.builtin "list.__getattribute__"))
  gattr : findIn K (.ref C) "__getattr__" = some none
  opq : nsIn K cStatics "thirdparty.any" = some none

section
variable {prog : Program} {w : World} {M : Model} {A : Around} {E : Value → Shared → Prop} {C x q : Addr} {s : Shared} {h : Heap} {pos : Pos} {K : Frag} {ox : Obj} {od : Option Obj}

theorem ClsK.mro (k : ClsK K C) (X : K.In h) : Looks M h (mroOf (.ref C)) [.ref C, .type "list", .type "object"] := by
  obtain ⟨oc, od, cd, sl, e, m, _⟩ := k.cls
  have hc : clsIn K C = some cd := by unfold clsIn; rw [e]
  rw [← m]; exact (looks_clsIn X hc).andThen .now
theorem ClsK.sub (k : ClsK K C) (X : K.In h) (b : Value) (r : Bool) (hr : ([.ref C, .type "list", .type "object"] : List Value).contains b = r) : Looks M h (isSubtype (.ref C) b) r := by
  refine nng fun nG => ?_
  obtain ⟨oc, od, cd, sl, e, m, _⟩ := k.cls
  refine nG ?_
  clear nG
  refine looks_mroIn X ?_
  have hc : clsIn K C = some cd := by unfold clsIn; rw [e]
  unfold mroIn
  rw [hc, Option.bind_some, m, if_neg (by simp), hr]
theorem ClsK.obj (k : ClsK K C) (X : K.In h) : ∃ oC cd, h.get? C = some oC ∧ oC.data = .cls cd ∧ cd.hasDel = false := by
  obtain ⟨oc, od, cd, sl, e, m, d, _⟩ := k.cls
  exact ⟨_, cd, X _ _ e, rfl, d⟩
theorem ClsK.made (k : ClsK K C) (X : K.In h) : Looks M h (Bind.madeBy (.ref C)) (some "list.__new__") := by
  obtain ⟨oc, od, cd, sl, e, m, d, hd, _, e3⟩ := k.cls
  intro A Q E s k' q
  unfold Bind.madeBy
  refine wpAny_bind (k.mro X A _ E s k' ?_)
  rw [List.forIn_cons]
  refine wpAny_bind (wpAny_bind (wpAny_bind (wpAny_bind (wpAny_loadPart (k' _ _ (X _ _ e)) (wpAny_pure ?_)))))
  dsimp only
  rw [← Array.getElem?_toList, e3]
  exact wpAny_pure (wpAny_pure (wpAny_pure q))
theorem ClsK.kls (k : ClsK K C) (X : K.In h) : Kls M h C := by
  refine ⟨k.obj X, ?_, k.made X, k.sub X _ true (by simp), k.sub X _ true (by simp), looks_specialIn X k.call, looks_instIn X k.typ, _, k.mro X, rfl⟩
  intro A Q E s k' q
  unfold Bind.staticBase
  refine wpAny_bind (k.mro X A _ E s k' ?_)
  rw [List.forIn_cons]
  exact wpAny_bind (wpAny_bind (wpAny_bind (k.made X A _ E s k' (wpAny_pure (wpAny_pure (wpAny_pure q))))))

theorem isList_inst (k : ClsK K C) (X : K.In h) (I : InstAt h x ox C od) : Looks M h (isInstance (.ref x) (.type "list")) true :=
  I.type.andThen (k.sub X _ true (by simp))

theorem method_any {a t : Value} {name : Str} {pl : Sem Bool} {Q : Value × List Value → Shared → Prop} (k : ClsK K C) (X : K.In s.heap) (I : InstAt s.heap x ox C od)
    (hf : findIn K (.ref C) name = some (some a)) (ht : typeIn K a = some t) (hk : t = .type "function" ∨ t = .type "method_descriptor") (hs : shadowIn od name = some false) (h : Q (a, [.ref x]) s) :
    wpAny (model prog w) A (getMethod (.ref x) name pl) Q E s := by
  have hcan : (Manifest.canonical "list.__getattribute__" != "object.__getattribute__") = false := by decide +kernel
  unfold getMethod specialOf
  refine wpAny_bind (wpAny_bind (I.type.here ((looks_findIn X k.ga).here ?_)))
  dsimp only
  rw [hcan, if_neg (by decide)]
  refine wpAny_bind (wpAny_bind (I.type.here ((looks_findIn X k.gattr).here ?_)))
  refine wpAny_bind (wpAny_bind (I.type.here ((looks_findIn X hf).here (wpAny_bind ((looks_typeIn X ht).here ?_)))))
  rw [if_neg (by rcases hk with rfl | rfl <;> decide +kernel)]
  refine wpAny_bind (wpAny_loadPart I.at_ ?_)
  have hd := I.dict
  cases e : ox.dict with
  | none => exact wpAny_bind (wpAny_rule (wpAny_pure h))
  | some dx =>
    cases od with
    | none => rw [e] at hd; exact hd.elim
    | some o =>
      rw [e] at hd
      obtain ⟨r, a, b⟩ := Option.map_eq_some_iff.mp hs
      refine wpAny_bind (wpAny_bind (wpAny_loadPart hd ?_))
      rw [nsLook_of a]
      refine wpAny_pure ?_
      rw [b]
      exact wpAny_bind (wpAny_rule (wpAny_pure h))
end

structure SupFn (prog : Program) (K : Frag) (C f : Addr) (fd : FuncData) (body : List Stmt) : Prop where
  get : ∀ P : Prop, (∀ o, K.lookup f = some o → o.data = .func fd → P) → P
  code : codeIn K fd.code fd.qualname = true
  body : fd.body = .stmts body
  co : fd.scope.isCoroutine = false
  gen : fd.scope.isGenerator = false
  kind : fd.scope.kind = .function
  noCell : ∀ x ∈ fd.scope.names, x.2 ≠ .cell
  self : fd.scope.names.lookup ("self" : Str) = some .local
  cls : fd.scope.names.lookup ("__class__" : Str) = some .free
  sup : fd.scope.names.lookup ("super" : Str) = some .globalImplicit
  par : ∀ P : Prop, (∀ ar, (fd.params.posonlyargs ++ fd.params.args).head? = some ar → ar.arg = "self" → P) → P
  cell : ∀ P : Prop, (∀ cc o, fd.closure.lookup ("__class__" : Str) = some cc → K.lookup cc = some o → o.data = .cell (some (.ref C)) → P) → P
  glob : fd.globals = mainGlobals
  blt : fd.builtins = builtinsNs
  file : ∀ P : Prop, (∀ cda oc vs file tf, fd.code = .ref cda → K.lookup cda = some oc → oc.data = .fields vs → vs[2]? = some (.str file tf) → ((prog.main.file : Str) == file) = true → P) → P
  top : (prog.main.scope.names.lookup ("super" : Str)).isSome = false

section
variable {c : Cx} {A : Around} {E : Value → Shared → Prop} {x f L : Addr} {s : Shared} {fd : FuncData} {body : List Stmt} {m : Str → Option Value} {ox : Obj} {od : Option Obj}

theorem super_obj {p0 p1 : Pos} {attr : Str} {whole : Sem Value} {bd : List Stmt} {Q : Value → Shared → Prop} (O : Ok c) (S : SupFn c.prog c.K c.C f fd body) (k : ClsK c.K c.C) (X : c.K.In s.heap) (hb : ∃ mb, s.heap.Ns builtinsNs mb ∧ ∀ x : Str, x ≠ "__name__" → mb x = bootBuiltins x)
    (hsup : nsIn c.K mainGlobals "super" = some none)
    (hn : s.heap.Ns L m) (hm : m "self" = some (.ref x)) (I : InstAt s.heap x ox c.C od) (hat : (attr == ("__class__" : Str)) = false)
    (h : ∀ h', (∀ b o, s.heap.get? b = some o → h'.get? b = some o) → h'.get? s.heap.objs.size = some { cls := .type "super", dict := none, data := .fields #[.ref c.C, .ref x, .ref c.C], slots := #[] } → Q (.ref s.heap.objs.size) { s with heap := h' }) :
    _root_.PySem.wpAt (model c.prog c.w) A (.func bd (callEnv fd L f)) (attributeBase (.Call (.Name "super" p0) [] [] p1) attr (callEnv fd L f) whole) Q E s := by
  refine S.get _ fun of hf hfd => S.par _ fun ar hp hself => S.cell _ fun cc occ hcc hoc hdc => S.file _ fun cda oc vs file tf q1 q2 q3 q4 q5 => ?_
  refine nng fun nG => ?_
  obtain ⟨oC, cd, hC, hcd, _⟩ := k.obj X
  refine nG ?_
  clear nG
  refine ks_wpAt_super_base (env := callEnv fd L f) S.sup S.cls hat rfl (X _ _ hf) hfd hp q1 (X _ _ q2) q3 q4 q5 S.top ?_
  refine ks_loadName_global S.kind S.sup ?_
  refine nng fun nG => ?_
  obtain ⟨mb, hmb, hv⟩ := hb
  refine nG ?_
  clear nG
  unfold loadGlobal
  rw [show (callEnv fd L f).globals = mainGlobals from S.glob, show (callEnv fd L f).builtins = builtinsNs from S.blt]
  refine wpAny_bind ((looks_nsIn X hsup).here ?_)
  refine wpAny_bind (wpAny_nsGet hmb ?_)
  rw [hv "super" (by decide +kernel), show bootBuiltins "super" = some (.type "super") by decide +kernel]
  refine wpAny_pure ⟨rfl, ?_⟩
  refine wpAny_loadName_free S.kind S.cls hcc ⟨_, X _ _ hoc, hdc⟩ ?_
  rw [hself]
  refine wpAny_loadName_local S.kind S.self hn hm ?_
  obtain ⟨hh, g, d, t, os⟩ := s
  refine ks_wpAny_isType_cls hC hcd ⟨rfl, ?_⟩
  refine ks_wpAny_call_super hC hcd I.at_ I.cls (fun c e => ?_) (k.sub X _ true (by simp)) (fun h' e k => ?_)
  · have := I.no
    unfold notCls at this
    rw [e] at this
    exact Bool.noConfusion this
  · exact h h' k e
end
end Mine.Internal
end
section
open PySem PySem.W PySem.Calls PyProof.Rows PySem.Builtin
set_option Elab.async false
set_option linter.unusedVariables false
set_option maxRecDepth 100000
namespace Mine.Internal
open PySem.F

noncomputable abbrev superE (p0 p1 pa pb : Pos) (name : Str) : Expr := .Call (.Attribute (.Call (.Name "super" p0) [] [] p1) name pa) [] [] pb

section
variable {c : Cx} {A : Around} {E : Value → Shared → Prop} {x f L : Addr} {s : Shared} {fd : FuncData} {body bd : List Stmt} {m : Str → Option Value} {ox : Obj} {od : Option Obj} {n : Nat}

theorem inst_ne {K : Frag} {C : Addr} {h : Heap} (k : ClsK K C) (X : K.In h) (I : InstAt h x ox C od) : x ≠ C := by
  obtain ⟨oc, od', cd, sl, e, _⟩ := k.cls
  exact ks_ne (cd := cd) X I (by unfold clsIn; rw [e])

theorem super_meth {p0 p1 pa pb : Pos} {name : Str} {id T : String} {B : Builtin} {Q : Value → Shared → Prop} (O : Ok c) (S : SupFn c.prog c.K c.C f fd body) (k : ClsK c.K c.C) (X : c.K.In s.heap) (hb : ∃ mb, s.heap.Ns builtinsNs mb ∧ ∀ x : Str, x ≠ "__name__" → mb x = bootBuiltins x)
    (hsup : nsIn c.K mainGlobals "super" = some none) (hn : s.heap.Ns L m) (hm : m "self" = some (.ref x)) (I : InstAt s.heap x ox c.C od) (hpos : pa.endLine = pb.line)
    (H : LAttr name id T) (hf : alongIn c.K name [.type "list", .type "object"] = some (some (.builtin id))) (hB : entryFor table id = some B) (hpl : plainId id = true)
    (hck : ∀ s', (∀ b o, s.heap.get? b = some o → s'.heap.get? b = some o) → wpAny (model c.prog c.w) A.in1 (checkBoundCall id ⟨[.ref x], []⟩) (fun _ s'' => s'' = s') E s')
    (h : ∀ h' tk, (∀ b o, s.heap.get? b = some o → h'.get? b = some o) → wpAny (model c.prog c.w) A.in1 (B ⟨[.ref x], []⟩) (fun fin s' => ∃ v, fin = .done (.ret v) ∧ Q v s') E { s with heap := h', toks := tk }) :
    _root_.PySem.wpAt (model c.prog c.w) A (.func bd (callEnv fd L f)) (eval (superE p0 p1 pa pb name) (callEnv fd L f)) Q E s := by
  have hat : (name == ("__class__" : Str)) = false := by cases H <;> decide
  have hT : T = "builtin_function_or_method" ∨ T = "method-wrapper" := by cases H <;> simp
  show _root_.PySem.wpAt _ _ _ (eval (.Call (.Attribute (.Call (.Name "super" p0) [] [] p1) name pa) [] [] pb) (callEnv fd L f)) _ _ _
  rw [arm_eval_Call]
  refine _root_.PySem.wpAt_bind (super_obj O S k X hb hsup hn hm I hat fun h1 k1 e1 => _root_.PySem.wpAt_of_wpAny (wpAny_bind (wpAny_standAt ?_)))
  unfold methodCall
  show wpAny _ _ (holding [.ref s.heap.objs.size] (getMethod (.ref s.heap.objs.size) name _) >>= _) _ _ _
  have X1 : c.K.In h1 := X.keeps k1
  have I1 : InstAt h1 x ox c.C od := ⟨k1 _ _ I.at_, I.cls, I.no, by
    have := I.dict
    cases e : ox.dict with
    | none => rw [e] at this; cases od with
      | none => trivial
      | some o => exact this.elim
    | some dx => rw [e] at this; cases od with
      | none => exact this.elim
      | some o => exact k1 _ _ this⟩
  refine wpAny_bind (wpAny_holding (super_method H e1 (looks_opaque X1 k.opq) (k.mro X1) X1 hf (inst_ne k X1 I1) hat (isList_inst k X1 I1) ?_))
  show wpAny _ _ (methodCallPos true _ _ pa pb >>= fun callPos => callWith callPos (.ref h1.objs.size) [] [] []) _ _ _
  have : methodCallPos true (.Call (.Name "super" p0) [] [] p1) (callEnv fd L f) pa pb = pure pb := by
    unfold methodCallPos; rw [hpos]; simp
  rw [this]
  refine wpAny_bind (wpAny_pure ?_)
  have k2 : ∀ b o, s.heap.get? b = some o → (h1.push (boundObj T id x)).get? b = some o := fun b o e => Heap.get?_push_of_some _ (k1 b o e)
  exact bound_call hT hB hpl (Heap.get?_push_size _ rfl) (hck _ k2) (h _ _ k2)

theorem sup_call {vals : List Value} {binds : List (Str × Value)} {Q : Value → Shared → Prop} (O : Ok c) (R : Rm (n + 1) A) (S : SupFn c.prog c.K c.C f fd body) (X : c.K.In s.heap) (hlim : s.heap.NoLimit) (hbind : BindsTo s fd ⟨vals, []⟩ binds)
    (hloc : ∀ y ∈ binds, fd.scope.names.lookup y.1 = some .local)
    (h : ∀ h₀ tk, h₀.Ns s.heap.objs.size (fun y => binds.reverse.lookup y) → (∀ b o, s.heap.get? b = some o → h₀.get? b = some o) →
      _root_.PySem.wpAt (model c.prog c.w) (A.deeper (callEnv fd s.heap.objs.size f)) (.func body (callEnv fd s.heap.objs.size f)) (execs body (callEnv fd s.heap.objs.size f)) (fun fl s' => Q (flV fl) s') (fun _ _ => False) { s with heap := h₀, toks := tk }) :
    codeAny (model c.prog c.w) A (.call (.ref f) ⟨vals, []⟩) (fun r s' => match r with | .ok (.ret v) => Q v s' | _ => False) s := by
  refine S.get _ fun of hf hfd => ?_
  refine ks_codeAny_call_defAt (fd := fd) (body := body) (binds := binds) (Nat.lt_of_le_of_lt (Nat.le_add_right _ (n + 1)) (Nat.lt_trans R.2.1 (by decide))) (X _ _ hf) hfd hlim (codeRec_of X S.code) S.body hbind S.noCell hloc (fun h₀ hns hk => ?_) S.co S.gen S.kind
  exact ks_wpAt_mono (h h₀ _ hns hk) (fun fl s' q => by cases fl <;> exact q) fun _ _ q => q.elim
end
end Mine.Internal
end
section
open PySem PySem.W PySem.Calls PyProof.Rows PySem.Builtin
set_option Elab.async false
set_option linter.unusedVariables false
set_option maxRecDepth 100000
namespace Mine.Internal
open PySem.F

theorem passes_list (self : Value) : refuseLoop self "__setattr__" [.type "list", .type "object"] = pure () := by kernel_rfl

section
variable {prog : Program} {w : World} {A : Around} {E : Value → Shared → Prop} {C x dx : Addr} {s : Shared} {K : Frag} {ox : Obj} {v : Value}

theorem put_empty (name : Str) (hs : Int) (t : Tok) (v : Value) : ∃ k, Obj.putName name hs (.str name t) v emptyDict = dictOf [⟨hs, .str name t, v⟩] k := by
  refine ⟨1, ?_⟩
  rw [Obj.putName_eq]
  simp [Obj.putNameByArray]

theorem set_first {name : Str} {Q : Unit → Shared → Prop} (k : ClsK K C) (X : K.In s.heap) (I : InstAt s.heap x ox C (some emptyDict)) (hd : ox.dict = some dx)
    (hsa : findIn K (.ref C) "__setattr__" = some (some (.builtin "object.__setattr__"))) (ht : findIn K (.ref C) name = some none)
    (h : ∀ h' tk hs t n, (∀ b o, b ≠ dx → s.heap.get? b = some o → h'.get? b = some o) → h'.get? dx = some (dictOf [⟨hs, .str name t, v⟩] n) → Q () { s with heap := h', toks := tk }) :
    wpAny (model prog w) A (setAttr (.ref x) name v) Q E s := by
  refine set_plain X I hsa ?_
  have SF := PySem.F.store_object
  have sub : Looks (model prog w) s.heap (isInstance (.ref x) (.type "object")) true := I.type.andThen (k.sub X _ true (by simp))
  refine codeAny_call_builtin SF.slot.plain SF.entry (@check_slot (model prog w) _ _ { s with toks := s.toks + 1 } "object.__setattr__" "object" "__setattr__" (.ref x) [.str name s.toks, v] [] _ SF.kind SF.split sub (SF.args (.ref x) (.str name s.toks) v) ?_)
  have hm : Looks (model prog w) s.heap (mroOf (.ref C)) [.ref C, .type "list", .type "object"] := k.mro X
  rw [osa_eq, refuse_eq]
  refine wpAny_bind (wpAny_bind ((I.type (M := model prog w)).at (wpAny_bind (hm.at ?_))))
  rw [refuseLoop_ref, passes_list]
  refine wpAny_pure (wpAny_bind ((I.type (M := model prog w)).at (wpAny_bind ((looks_findIn X ht).at (wpAny_bind (wpAny_pure ?_))))))
  refine nng fun nG => ?_
  obtain ⟨oc, od', cd, sl, e, m, d, hdict, _⟩ := k.cls
  have hc : clsIn K C = some cd := by unfold clsIn; rw [e]
  have hD := I.dict
  rw [hd] at hD
  have hx := I.at_
  have hcl := I.cls
  obtain ⟨oc2, odi, oda, osl⟩ := ox
  refine nG ?_
  clear nG
  dsimp only at hcl hd
  subst hcl hd
  have Lc : Looks (model prog w) s.heap (classData C) cd := looks_clsIn X hc
  refine wpAny_bind (wpAny_pure (wpAny_bind (wpAny_bind (wpAny_loadPart hx (wpAny_bind (Lc.at ?_))))))
  rw [hdict]
  refine wpAny_pure (a := some dx) (wpAny_bind (wpAny_pure (wpAny_bind ?_)))
  unfold nsSet
  refine wpAny_bind (wpAny_bind (wpAny_askSetting (wpAny_pure (wpAny_bind (wpAny_mkText (wpAny_bind (wpAny_loadPart hD ?_)))))))
  obtain ⟨n, en⟩ := put_empty name (PyData.keyHash w.params name) (s.toks + 1) v
  have hget : (s.heap.update dx (Obj.putName name (PyData.keyHash w.params name) (.str name (s.toks + 1)) v)).get? dx = some (dictOf [⟨PyData.keyHash w.params name, .str name (s.toks + 1), v⟩] n) := by
    rw [Heap.get?_update_self _ hD (by rw [en]; rfl), en]
  dsimp only
  rw [aRefKeyMayBeTheName_at]
  rw [if_neg (by simp)]
  refine wpAny_updatePart (s := { s with toks := s.toks + 1 + 1 }) hD ?_
  refine wpAny_bind (wpAny_lookBehind hget (pastItsLine_dict (by simp [sizeLine]) ) ?_)
  exact wpAny_pure (h _ _ _ _ n (fun b o hb e => (Heap.get?_update_ne _ _ _ _ hb).trans e) hget)
end
end Mine.Internal
end
section
open PySem PySem.W PySem.Calls PyProof.Rows PySem.Builtin
set_option Elab.async false
set_option linter.unusedVariables false
set_option maxRecDepth 100000
namespace Mine.Internal
open PySem.F

structure InitK (c : Cx) (fI : Addr) : Prop where
  cls : ClsK c.K c.C
  sup : nsIn c.K mainGlobals "super" = some none
  setattr : findIn c.K (.ref c.C) "__setattr__" = some (some (.builtin "object.__setattr__"))
  slot : findIn c.K (.ref c.C) "_initial_size" = some none
  init : findIn c.K (.ref c.C) "__init__" = some (some (.ref fI))
  typ : typeIn c.K (.ref fI) = some (.type "function")
  fn : ∀ P : Prop, (∀ fd p1 p2 p3 p4 p5 p6 p7 p8 p9 v0, SupFn c.prog c.K c.C fI fd [.Assign [.Attribute (.Name "self" p1) "_initial_size" p2] (.Name "initial_size" p3) p4, .Expr (superE p5 p6 p7 p8 "__init__") p9] → p7.endLine = p8.line →
    (∀ s a, c.K.In s.heap → BindsTo s fd ⟨[a], []⟩ [("self", a), ("initial_size", v0)]) → fd.scope.names.lookup ("initial_size" : Str) = some .local → P) → P
  along : alongIn c.K "__init__" [.type "list", .type "object"] = some (some (.builtin "list.__init__"))

section
variable {c : Cx} {A : Around} {x dx fI : Addr} {s : Shared} {n : Nat}

theorem w_type (C : Addr) : (Code.builtin "type.__call__" ⟨[.ref C], []⟩).weight = 1 := by kernel_rfl
theorem u_type (C : Addr) : (Code.builtin "type.__call__" ⟨[.ref C], []⟩).cUnits = 1 := by kernel_rfl
theorem under_type {C : Addr} (R : Rm (n + 2) A) : Rm (n + 1) (A.under (.builtin "type.__call__" ⟨[.ref C], []⟩)) := by
  refine ⟨R.1, ?_, ?_⟩
  · have := R.2.1
    show A.depth + (Code.builtin "type.__call__" ⟨[.ref C], []⟩).weight + (n + 1) < 900
    rw [w_type]; lia
  · have := R.2.2
    show A.units + (Code.builtin "type.__call__" ⟨[.ref C], []⟩).cUnits + 10 * (n + 1) < 9000
    rw [u_type]; lia

theorem acc_make {Q : Value → Shared → Prop} (O : Ok c) (R : Rm (n + 2) A) (I : InitK c fI) (X : c.K.In s.heap) (hlim : s.heap.NoLimit) (hb : ∃ mb, s.heap.Ns builtinsNs mb ∧ ∀ x : Str, x ≠ "__name__" → mb x = bootBuiltins x)
    (hQ : ∀ x dx od nn h' tk, s.heap.get? x = none → s.heap.get? dx = none → x ≠ dx → (∀ b o, s.heap.get? b = some o → h'.get? b = some o) → h'.get? x = some (accObj c.C dx [] nn) → h'.get? dx = some od → AccDict od → Q (.ref x) { s with heap := h', toks := tk }) :
    wpAny (model c.prog c.w) A (call (.ref c.C) []) Q (fun _ _ => False) s := by
  refine I.fn _ fun fd p1 p2 p3 p4 p5 p6 p7 p8 p9 v0 S hpos hbind hloc => ?_
  obtain ⟨hh, g, d, t, os⟩ := s
  refine wpAny_call (make_list (n := 0) (fI := fI) (I.cls.kls X) (looks_findIn X I.init) (fun self => bind_fn X self I.typ) ?_)
  have k1 : ∀ b o, hh.get? b = some o → ((hh.push emptyDict).push (seqObj c.C hh.objs.size)).get? b = some o := fun b o e => Heap.get?_push_of_some _ (Heap.get?_push_of_some _ e)
  have hxn : hh.get? (hh.objs.size + 1) = none := by
    cases e : hh.get? (hh.objs.size + 1) with
    | none => rfl
    | some o => exact absurd (Heap.lt_size e) (fun q => Nat.lt_irrefl _ (Nat.lt_trans (Nat.lt_succ_self _) q))
  have hx1 : ((hh.push emptyDict).push (seqObj c.C hh.objs.size)).get? (hh.objs.size + 1) = some (seqObj c.C hh.objs.size) := by heap_get
  have hd1 : ((hh.push emptyDict).push (seqObj c.C hh.objs.size)).get? hh.objs.size = some emptyDict := by heap_get
  generalize hH1 : (hh.push emptyDict).push (seqObj c.C hh.objs.size) = h1 at *
  have hdn := size_none hh
  generalize hdx : hh.objs.size = dx at *
  have X1 : c.K.In h1 := X.keeps k1
  refine codeAny_mono (sup_call (s := ⟨h1, g, d, t, os⟩) (Q := fun v s' => v = .none ∧ Q (.ref (dx + 1)) s') O (under_type R) S X1 (hlim.keeps k1) (hbind _ _ X1) (fun y hy => ?_) fun h2 tk hn2 k2 => ?_) fun r s' z => ?_
  · rcases List.mem_cons.mp hy with rfl | hy
    · exact S.self
    · rw [List.mem_singleton.mp hy]; exact hloc
  · have X2 : c.K.In h2 := X1.keeps k2
    have hx2 := k2 _ _ hx1
    have hd2 := k2 _ _ hd1
    have hms : (fun y => List.lookup y (List.reverse [(("self" : Str), Value.ref (dx + 1)), ("initial_size", v0)])) "self" = some (.ref (dx + 1)) := by
      show List.lookup ("self" : Str) [(("initial_size" : Str), v0), ("self", Value.ref (dx + 1))] = _
      rw [List.lookup_cons, show (("self" : Str) == "initial_size") = false by decide, List.lookup_cons, show (("self" : Str) == "self") = true by decide]
    have hmi : (fun y => List.lookup y (List.reverse [(("self" : Str), Value.ref (dx + 1)), ("initial_size", v0)])) "initial_size" = some v0 := by
      show List.lookup ("initial_size" : Str) [(("initial_size" : Str), v0), ("self", Value.ref (dx + 1))] = _
      rw [List.lookup_cons, show (("initial_size" : Str) == "initial_size") = true by decide]
    have I2 : InstAt h2 (dx + 1) (seqObj c.C dx) c.C (some emptyDict) := ⟨hx2, rfl, rfl, hd2⟩
    refine ks_wpAt_execs_cons (ks_wpAt_Assign_Attr (_root_.PySem.wpAt_of_wpAny (wpAny_Name (wpAny_loadName_local S.kind hloc hn2 hmi (wpAny_Name (wpAny_loadName_local S.kind S.self hn2 hms ?_) (by decide))) (by decide))) (by rfl))
    refine set_first (s := ⟨h2, g, d, tk, os⟩) I.cls X2 I2 rfl I.setattr I.slot fun h3 tk3 hs3 t3 n3 k3 e3 => ?_
    have k03 : ∀ b o, hh.get? b = some o → h3.get? b = some o := fun b o e => k3 b o (fun q => by rw [q, hdn] at e; cases e) (k2 b o (k1 b o e))
    have X3 : c.K.In h3 := X.keeps k03
    have hx3 : h3.get? (dx + 1) = some (seqObj c.C dx) := k3 _ _ (Nat.succ_ne_self dx) hx2
    have hL : h1.objs.size ≠ dx := fun q => by have := Heap.lt_size hd1; rw [q] at this; exact Nat.lt_irrefl _ this
    have hn3 : h3.Ns h1.objs.size (fun y => List.lookup y (List.reverse [(("self" : Str), Value.ref (dx + 1)), ("initial_size", v0)])) := hn2.at' fun o e => k3 _ o hL e
    refine nng fun nG => ?_
    obtain ⟨mb, hmb, hmv⟩ := hb
    refine nG ?_
    clear nG
    have I3 : InstAt h3 (dx + 1) (seqObj c.C dx) c.C (some (dictOf [⟨hs3, .str "_initial_size" t3, v0⟩] n3)) := ⟨hx3, rfl, rfl, e3⟩
    refine ks_wpAt_execs_cons (ks_wpAt_Expr_any (super_meth (s := ⟨h3, g, d, tk3, os⟩) O S I.cls X3 ⟨mb, hmb.keeps k03, hmv⟩ I.sup hn3 hms I3 hpos .init I.along entry_linit (by decide +kernel) (fun s' _ => by rw [bc_init]; exact wpAny_pure rfl) fun h4 tk4 k4 => ?_) ?_ (by rfl))
    · refine init_body (s := ⟨h4, g, d, tk4, os⟩) (k4 _ _ hx3) rfl fun h5 hs5 e5 => ?_
      have k5 : ∀ b o, b ≠ dx + 1 → h4.get? b = some o → h5.get? b = some o := hs5.extBut
      refine _root_.PySem.wpAt_of_wpAny (wpAny_execs_nil ⟨rfl, ?_⟩)
      obtain ⟨nn, hx5⟩ : ∃ nn, h5.get? (dx + 1) = some (accObj c.C dx [] nn) := ⟨_, by rw [e5]; rfl⟩
      exact hQ (dx + 1) dx _ nn h5 tk4 hxn hdn (Nat.succ_ne_self dx) (fun b o e => k5 b o (fun q => by rw [q, hxn] at e; cases e) (k4 b o (k03 b o e))) hx5 (k5 _ _ (Ne.symm (Nat.succ_ne_self dx)) (k4 _ _ e3)) ⟨_, _, _, _, rfl⟩
    · show interactive (callEnv fd h1.objs.size fI) = false
      unfold interactive
      simp [callEnv, newEnv, S.kind]
  · rcases r with e | (v | _ | _ | _) <;> first | exact z | exact z.elim | skip
end
end Mine.Internal
end
section
open PySem PySem.W PySem.Calls PyProof.Rows PySem.Builtin
set_option Elab.async false
set_option linter.unusedVariables false
set_option maxRecDepth 100000
namespace Mine.Internal
open PySem.F

structure CountK (c : Cx) (fN : Addr) : Prop where
  cls : ClsK c.K c.C
  sup : nsIn c.K mainGlobals "super" = some none
  find : findIn c.K (.ref c.C) "part_count" = some (some (.ref fN))
  typ : typeIn c.K (.ref fN) = some (.type "function")
  fn : ∀ P : Prop, (∀ fd p5 p6 p7 p8 p9, SupFn c.prog c.K c.C fN fd [.Return (some (superE p5 p6 p7 p8 "__len__")) p9] → p7.endLine = p8.line → (∀ a, bindArgs fd ⟨[a], []⟩ = pure [(("self" : Str), a)]) → P) → P
  along : alongIn c.K "__len__" [.type "list", .type "object"] = some (some (.builtin "list.__len__"))
structure PopK (c : Cx) (fN fO : Addr) : Prop where
  cnt : CountK c fN
  find : findIn c.K (.ref c.C) "pop" = some (some (.ref fO))
  typ : typeIn c.K (.ref fO) = some (.type "function")
  fn : ∀ P : Prop, (∀ fd p5 p6 p7 p8 p9 q1 q2 q3 k q4 q5 k1 r1 k2 r2 k3 r3 r4 q6, SupFn c.prog c.K c.C fO fd
      [.If (.Compare (.Call (.Attribute (.Name "self" q1) "part_count" q2) [] [] q3) [.Eq] [.Constant (.int 0) k q4] q5) [.Return (some (.Tuple [.Constant (.str "") k1 r1, .Constant (.str "") k2 r2] k3 r3)) r4] [] q6,
        .Return (some (superE p5 p6 p7 p8 "pop")) p9] → p7.endLine = p8.line → q2.endLine = q3.line → (∀ a, bindArgs fd ⟨[a], []⟩ = pure [(("self" : Str), a)]) → P) → P
  along : alongIn c.K "pop" [.type "list", .type "object"] = some (some (.builtin "list.pop"))
  chk : ∃ cd sig, clsIn c.K c.C = some cd ∧ Manifest.signature? "list.pop" = some sig ∧ ∀ a, Bind.checkArgs "list.pop" { sig with full := s!"{cd.qualname.toString}.{Bind.lastOf "list.pop"}" } ⟨[a], []⟩ = pure ()

section
variable {c : Cx} {A : Around} {E : Value → Shared → Prop} {x dd fN fO : Addr} {s : Shared} {n : Nat} {vs us : List Value} {nn : Nat} {od : Obj}

theorem acc_inst {h : Heap} (hx : h.get? x = some (accObj c.C dd vs nn)) (hd : h.get? dd = some od) : InstAt h x (accObj c.C dd vs nn) c.C (some od) := ⟨hx, rfl, rfl, hd⟩
theorem self_map {a : Value} : (fun y => List.lookup y (List.reverse [(("self" : Str), a)])) "self" = some a := by
  show List.lookup ("self" : Str) [(("self" : Str), a)] = _
  rw [List.lookup_cons, show (("self" : Str) == "self") = true by decide]

theorem call_count {Q : Value → Shared → Prop} (O : Ok c) (R : Rm (n + 1) A) (I : CountK c fN) (X : c.K.In s.heap) (hlim : s.heap.NoLimit) (hb : ∃ mb, s.heap.Ns builtinsNs mb ∧ ∀ x : Str, x ≠ "__name__" → mb x = bootBuiltins x)
    (hx : s.heap.get? x = some (accObj c.C dd vs nn)) (hd : s.heap.get? dd = some od)
    (hQ : ∀ h' t tk, (∀ b o, s.heap.get? b = some o → h'.get? b = some o) → Q (.int vs.length t) { s with heap := h', toks := tk }) :
    wpAny (model c.prog c.w) A (call (.ref fN) [.ref x]) Q (fun _ _ => False) s := by
  refine I.fn _ fun fd p5 p6 p7 p8 p9 S hpos hbind => ?_
  refine wpAny_call (codeAny_mono (sup_call (Q := Q) O R S X hlim (BindsTo.of_eq (hbind _)) (fun y hy => ?_) fun h2 tk hn2 k2 => ?_) fun r s' z => ?_)
  · rw [List.mem_singleton.mp hy]; exact S.self
  · refine nng fun nG => ?_
    obtain ⟨mb, hmb, hmv⟩ := hb
    refine nG ?_
    clear nG
    refine ks_wpAt_execs_cons (ks_wpAt_Return_some (super_meth (s := { s with heap := h2, toks := tk }) O S I.cls (X.keeps k2) ⟨mb, hmb.keeps k2, hmv⟩ I.sup hn2 self_map (acc_inst (k2 _ _ hx) (k2 _ _ hd)) hpos .len I.along entry_len (by decide +kernel)
      (fun s' _ => by rw [bc_len]; exact wpAny_pure rfl) fun h4 tk4 k4 => ?_))
    refine len_body (k4 _ _ (k2 _ _ hx)) rfl fun t k => ?_
    show Q (.int vs.toArray.size t) _
    rw [List.size_toArray]
    exact hQ h4 t k fun b o e => k4 b o (k2 b o e)
  · rcases r with e | (v | _ | _ | _) <;> first | exact z | exact z.elim

theorem map_acc (C dd : Addr) (vs : List Value) (n : Nat) (f : Array Value → Array Value) : ∃ n', (accObj C dd vs n).mapSeq f = { cls := .ref C, dict := some dd, data := .seq (f vs.toArray) n' } := ⟨_, rfl⟩
theorem bound_pop {ox : Obj} {oq : Option Obj} (I : PopK c fN fO) (X : c.K.In s.heap) (J : InstAt s.heap x ox c.C oq) : wpAny (model c.prog c.w) A (checkBoundCall "list.pop" ⟨[.ref x], []⟩) (fun _ s'' => s'' = s) E s := by
  refine nng fun nG => ?_
  obtain ⟨cd, sig, hcd, hsig, hchk⟩ := I.chk
  have hk : builtinKind "list.pop" = some .method := by decide +kernel
  have hva : Manifest.varargsMethods.contains "list.pop" = false := by decide +kernel
  obtain ⟨oc, od', cd', sl, e, _, _, _, hoc, _⟩ := I.cnt.cls.cls
  refine nG ?_
  clear nG
  have hty : Looks (model c.prog c.w) s.heap (typeOf (.ref c.C)) (.type "type") := looks_typeIn X (by show (c.K.lookup c.C).map _ = _; rw [e, hoc]; rfl)
  unfold checkBoundCall
  rw [hsig, hk]
  dsimp only
  rw [if_neg (by decide)]
  refine wpAny_bind ((J.type.andThen (I.cnt.cls.sub X (.type "module") false (by simp))).here ?_)
  rw [hva]
  rw [if_neg (by decide)]
  obtain ⟨hh, g, d, t, os⟩ := s
  refine wpAny_bind (ks_wpAny_isType_inst J.at_ (fun c e => ?_) ?_)
  · have := J.no
    unfold notCls at this
    rw [e] at this
    exact Bool.noConfusion this
  · rw [if_neg (by decide)]
    refine wpAny_bind ((J.type (M := model c.prog c.w)).at ?_)
    refine wpAny_bind ((looks_clsIn X hcd).at (wpAny_bind (hty.at ?_)))
    rw [if_pos (by decide), hchk]
    exact wpAny_pure rfl
theorem shadow_acc {name : Str} {hs : Int} {t : Tok} {v : Value} {k : Nat} (h : (("_initial_size" : Str) == name) = false) : shadowIn (some (dictOf [⟨hs, .str "_initial_size" t, v⟩] k)) name = some false := by
  have e : (Value.str "_initial_size" t).isStr name = false := by
    cases q : (Value.str "_initial_size" t).isStr name with
    | false => rfl
    | true =>
      have : (("_initial_size" : Str) == name) = true := by
        first
          | exact q
          | simpa [Value.isStr] using q
      rw [h] at this; cases this
  simp [shadowIn, lookIn, dictOf, e, DictEntry.refKey]

theorem call_pop {Q : Value → Shared → Prop} (O : Ok c) (R : Rm (n + 2) A) (I : PopK c fN fO) (X : c.K.In s.heap) (hlim : s.heap.NoLimit) (hb : ∃ mb, s.heap.Ns builtinsNs mb ∧ ∀ x : Str, x ≠ "__name__" → mb x = bootBuiltins x)
    (hx : s.heap.get? x = some (accObj c.C dd vs nn)) (hd : s.heap.get? dd = some od) (had : AccDict od) (hsz : vs.length ≤ 10000000)
    (h0 : vs = [] → ∀ a h' t1 t2 tk, (∀ b o, s.heap.get? b = some o → h'.get? b = some o) → s.heap.get? a = none → h'.get? a = some (tupObj [.str "" t1, .str "" t2] 0) → Q (.ref a) { s with heap := h', toks := tk })
    (h1 : ∀ us v, vs = us ++ [v] → ∀ h' n' tk, (∀ b o, b ≠ x → s.heap.get? b = some o → h'.get? b = some o) → h'.get? x = some (accObj c.C dd us n') → Q v { s with heap := h', toks := tk }) :
    wpAny (model c.prog c.w) A (call (.ref fO) [.ref x]) Q (fun _ _ => False) s := by
  refine I.fn _ fun fd p5 p6 p7 p8 p9 q1 q2 q3 k q4 q5 k1 r1 k2 r2 k3 r3 r4 q6 S hpos hpos2 hbind => ?_
  refine I.cnt.fn _ fun fdN _ _ _ _ _ S' _ _ => S'.get _ fun oN hN hNd => ?_
  clear S'
  refine wpAny_call (codeAny_mono (sup_call (n := n + 1) (Q := Q) O R S X hlim (BindsTo.of_eq (hbind _)) (fun y hy => ?_) fun h2 tk hn2 kk => ?_) fun r s' z => ?_)
  · rw [List.mem_singleton.mp hy]; exact S.self
  · refine nng fun nG => ?_
    obtain ⟨mb, hmb, hmv⟩ := hb
    have X2 := X.keeps kk
    obtain ⟨hs, td, vd, kd, rfl⟩ := had
    refine nG ?_
    clear nG
    have I2 := acc_inst (c := c) (kk _ _ hx) (kk _ _ hd)
    refine ks_wpAt_execs_cons (ks_wpAt_If (_root_.PySem.wpAt_of_wpAny (wpAny_isTrue_Compare1 (meth_call rfl rfl (by decide) hpos2 (wpAny_Name (wpAny_loadName_local S.kind S.self hn2 self_map ?_) (by decide))) rfl)))
    refine method_any (s := { s with heap := h2, toks := tk }) I.cnt.cls X2 I2 I.cnt.find I.cnt.typ (.inl rfl) (shadow_acc (by decide)) ?_
    refine callWith_function (o := oN) (fd := fdN) (PyProof.Rows.evalArgs_none ⟨⟨X2 _ _ hN, hNd⟩, ?_⟩)
    refine call_count (s := { s with heap := h2, toks := tk }) (n := n) O R.deep I.cnt X2 (hlim.keeps kk) ⟨mb, hmb.keeps kk, hmv⟩ (kk _ _ hx) (kk _ _ hd) fun h3 t3 tk3 kk3 => ?_
    refine wpAny_Constant_int ?_
    have kk23 : ∀ b o, s.heap.get? b = some o → h3.get? b = some o := fun b o e => kk3 b o (kk b o e)
    have hop : Op c (A.deeper (callEnv fd s.heap.objs.size fO)) (compareOp .Eq (.int vs.length t3) (.int 0 tk3)) [] [] (.bool ((vs.length : Int) == 0)) { s with heap := h3, toks := tk3 + 1 } := op_bool fun Q hQ => eq_int (hQ _)
    refine hop _ fun vb s4 k4 lb => ?_
    obtain ⟨h4, tk4, rfl, kk4⟩ := k4
    cases lb
    refine wpAny_pure ?_
    have kk24 : ∀ b o, s.heap.get? b = some o → h4.get? b = some o := fun b o e => kk4 b o (kk23 b o e)
    cases hv : ((vs.length : Int) == 0)
    · have hne : vs ≠ [] := fun e => by rw [e] at hv; cases hv
      refine nng fun nG => ?_
      obtain ⟨us, v, rfl⟩ : ∃ us v, vs = us ++ [v] := ⟨vs.dropLast, vs.getLast hne, (List.dropLast_concat_getLast hne).symm⟩
      refine nG ?_
      clear nG
      refine _root_.PySem.wpAt_of_wpAny (wpAny_execs_nil ?_)
      refine ks_wpAt_execs_cons (ks_wpAt_Return_some (super_meth (s := { s with heap := h4, toks := tk4 }) O S I.cnt.cls (X.keeps kk24) ⟨mb, hmb.keeps kk24, hmv⟩ I.cnt.sup (hn2.at' fun o e => kk4 _ o (kk3 _ o e)) self_map (acc_inst (kk24 _ _ hx) (kk24 _ _ hd)) hpos .pop I.along entry_pop (by decide +kernel)
        (fun s' ks' => ?_) fun h5 tk5 kk5 => ?_))
      · exact bound_pop I (X.keeps fun b o e => ks' b o (kk24 b o e)) (acc_inst (ks' _ _ (kk24 _ _ hx)) (ks' _ _ (kk24 _ _ hd)))
      · refine pop_body (kk5 _ _ (kk24 _ _ hx)) rfl (v := v) (by rw [List.size_toArray, List.length_append, List.length_singleton, Nat.add_sub_cancel, List.getElem?_toArray, List.getElem?_append_right (Nat.le_refl _)]; simp) (by rw [List.size_toArray]; exact hsz) fun h6 hs6 e6 => ?_
        have kk6 : ∀ b o, b ≠ x → h5.get? b = some o → h6.get? b = some o := hs6.extBut
        obtain ⟨n', hx6⟩ : ∃ n', h6.get? x = some (accObj c.C dd us n') := by
          have e7 : ((us ++ [v]).toArray.eraseIdxIfInBounds ((us ++ [v]).toArray.size - 1)) = us.toArray := by
            rw [List.size_toArray, List.length_append, List.length_singleton, Nat.add_sub_cancel]
            unfold Array.eraseIdxIfInBounds
            rw [dif_pos (by simp)]
            simp [List.eraseIdx_append_of_length_le]
          obtain ⟨n', e8⟩ := map_acc c.C dd (us ++ [v]) nn (·.eraseIdxIfInBounds ((us ++ [v]).toArray.size - 1))
          exact ⟨n', by rw [e6, e8, e7]; rfl⟩
        exact h1 us v rfl h6 n' tk5 (fun b o hb e => kk6 b o hb (kk5 b o (kk24 b o e))) hx6
    · have hv0 : vs = [] := by
        have : (vs.length : Int) = 0 := beq_iff_eq.mp hv
        exact List.eq_nil_of_length_eq_zero (by lia)
      refine ks_wpAt_execs_cons (ks_wpAt_Return_some (_root_.PySem.wpAt_of_wpAny (wpAny_Tuple (wpAny_items_cons (wpAny_Constant_str (wpAny_items_cons (wpAny_Constant_str (wpAny_items_nil ?_)))))) ))
      refine ⟨by simp [sizeLine], ?_⟩
      exact h0 hv0 h4.objs.size _ tk4 (tk4 + 1) (tk4 + 1 + 1) (fun b o e => Heap.get?_push_of_some _ (kk24 b o e)) (by
        cases e : s.heap.get? h4.objs.size with
        | none => rfl
        | some o => exact absurd (Heap.lt_size (kk24 _ _ e)) (Nat.lt_irrefl _)) (Heap.get?_push_size _ rfl)
  · rcases r with e | (v | _ | _ | _) <;> first | exact z | exact z.elim
end
end Mine.Internal
end
section
open PySem PySem.W PySem.Calls PyProof.Rows PySem.Builtin
set_option Elab.async false
set_option linter.unusedVariables false
set_option maxRecDepth 20000
namespace Mine.Internal
open PySem.Sre (M)

noncomputable def code1 : Array Nat := #[14, 4, 0, 1, 1, 6, 1, 16, 46, 1]
noncomputable def code2 : Array Nat := #[14, 9, 4, 1, 2, 16, 10, 16, 13, 0, 7, 7, 16, 13, 16, 10, 15, 18, 5, 16, 10, 15, 13, 11, 16, 13, 5, 5, 0, 16, 10, 1, 15, 2, 0, 1]

noncomputable def ln (text : Array Nat) (s : Nat) : Bool := s == 0 || text.getD (s - 1) 0 == 10

noncomputable def at1 (text : Array Nat) (st s : Nat) (o : Bool) (sn : Sre.Seen) : M :=
  { code := code1, text, lim := text.size, start := s, lastStart := text.size, pc := 5, pos := s, handed := s, outermost := o, marks := #[],
    frames := [{ wait := .nextStart, pc := 5, pos := s, outermost := o }], weight := 1, seen := sn }

theorem start1 (text : Array Nat) (s : Nat) (h : s < text.size) : Sre.forSearch code1 text 0 s text.size false = at1 text s s true (({} : Sre.Seen).add 14) := by
  have h1 : ¬ s > text.size := by lia
  have h2 : ¬ text.size - s < 1 := by lia
  show (if (decide (s > text.size) || decide (text.size - s < 1)) = true then _ else _) = _
  rw [decide_eq_false h1, decide_eq_false h2]
  rfl
theorem start1_end (text : Array Nat) (s : Nat) (h : ¬ s < text.size) : ∃ m, Sre.forSearch code1 text 0 s text.size false = m ∧ (m.runFor 1).outcome = some .failed := by
  refine ⟨_, rfl, ?_⟩
  have h2 : (decide (s > text.size) || decide (text.size - s < 1)) = true := by
    rw [Bool.or_eq_true, decide_eq_true_iff, decide_eq_true_iff]; lia
  show (M.runFor 1 (if (decide (s > text.size) || decide (text.size - s < 1)) = true then _ else _)).outcome = _
  rw [h2]
  rfl
theorem step1a (text : Array Nat) (st s : Nat) (o : Bool) (sn : Sre.Seen) :
    (at1 text st s o sn).step = if ln text s = true then { at1 text st s o ((sn.add 6).add 44) with pc := 7 } else { at1 text st s o ((sn.add 6).add 44) with answer := some false } := by rfl

theorem step1b (text : Array Nat) (st s : Nat) (o : Bool) (sn : Sre.Seen) :
    ({ at1 text st s o sn with pc := 7 } : M).step = if s ≥ text.size then { at1 text st s o (sn.add 16) with pc := 7, answer := some false } else
      match text.getD s 0 == 46 with
      | false => { at1 text st s o (sn.add 16) with pc := 7, answer := some false }
      | true => { at1 text st s o (sn.add 16) with pc := 9, pos := s + 1 } := by kernel_rfl
theorem step1f (text : Array Nat) (st s p : Nat) (o : Bool) (sn : Sre.Seen) :
    ({ at1 text st s o sn with pc := p, answer := some false } : M).step = if s < text.size then at1 text (s + 1) (s + 1) false sn else { at1 text st s o sn with frames := [], weight := 0, answer := some false } := by rfl
theorem step1c (text : Array Nat) (st s : Nat) (o : Bool) (sn : Sre.Seen) :
    ({ at1 text st s o sn with pc := 9, pos := s + 1 } : M).step = { at1 text st s o (sn.add 1) with pc := 9, pos := s + 1, handed := s + 1, answer := some true } := by cases o <;> rfl
theorem step1d (text : Array Nat) (st s : Nat) (o : Bool) (sn : Sre.Seen) :
    ({ at1 text st s o sn with pc := 9, pos := s + 1, handed := s + 1, answer := some true } : M).step = { at1 text st s o sn with frames := [], weight := 0, handed := s + 1, answer := some true } := by rfl
theorem step1e (text : Array Nat) (st s : Nat) (o b : Bool) (hd : Nat) (sn : Sre.Seen) :
    ({ at1 text st s o sn with frames := [], weight := 0, handed := hd, answer := some b } : M).step = { at1 text st s o sn with frames := [], weight := 0, handed := hd, answer := some b, outcome := some (if b = true then .matched else .failed) } := by rfl

theorem run_step {m : M} (n : Nat) (h : m.outcome.isSome = false) : M.runFor (n + 1) m = M.runFor n m.step := by
  rw [M.runFor, h]; rfl
theorem run_done {m : M} (n : Nat) (h : m.outcome.isSome = true) : M.runFor n m = m := by
  cases n with
  | zero => rfl
  | succ n => rw [M.runFor, h]; rfl
theorem run_add : ∀ (a b : Nat) (m : M), M.runFor (a + b) m = M.runFor b (M.runFor a m)
  | 0, b, m => by rw [Nat.zero_add]; rfl
  | a + 1, b, m => by
    cases h : m.outcome.isSome with
    | true => rw [run_done _ h, run_done _ h, run_done _ h]
    | false => rw [show a + 1 + b = (a + b) + 1 by lia, run_step _ h, run_step _ h]; exact run_add a b m.step

noncomputable def hit1 (text : Array Nat) (s : Nat) : Bool := ln text s && (decide (s < text.size) && text.getD s 0 == 46)
noncomputable def find1 (text : Array Nat) : Nat → Nat → Option Nat
  | 0, _ => none
  | n + 1, s => if hit1 text s = true then some s else find1 text n (s + 1)
noncomputable def Ends (m : M) (a : Option (Nat × Nat)) (k : Nat) : Prop := match a with
  | some p => (M.runFor k m).outcome = some .matched ∧ (M.runFor k m).start = p.1 ∧ (M.runFor k m).handed = p.2
  | none => (M.runFor k m).outcome = some .failed
theorem Ends.more {m m' : M} {a : Option (Nat × Nat)} {j k : Nat} (h : M.runFor j m = m') (x : Ends m' a k) : Ends m a (j + k) := by
  unfold Ends at x ⊢
  rw [run_add, h]; exact x

theorem search1 (text : Array Nat) : ∀ (n s st : Nat) (o : Bool) (sn : Sre.Seen), s ≤ text.size → text.size + 1 - s = n → st = s → ∃ k, k ≤ 5 * n ∧ Ends (at1 text st s o sn) ((find1 text n s).map fun q => (q, q + 1)) k := by
  intro n
  induction n with
  | zero => intro s st o sn h e; lia
  | succ n ih =>
    intro s st o sn h e hst
    subst hst
    by_cases hh : hit1 text st = true
    · refine ⟨5, by lia, ?_⟩
      rw [find1, if_pos hh]
      unfold hit1 at hh
      simp only [Bool.and_eq_true, decide_eq_true_eq] at hh
      obtain ⟨h1, h2, h3⟩ := hh
      have e1 := step1a text st st o sn
      rw [if_pos h1] at e1
      have e2 := step1b text st st o ((sn.add 6).add 44)
      rw [if_neg (by lia), h3] at e2
      have : M.runFor 5 (at1 text st st o sn) = { at1 text st st o (((( sn.add 6).add 44).add 16).add 1) with frames := [], weight := 0, handed := st + 1, answer := some true, outcome := some .matched } := by
        rw [run_step 4 rfl, e1, run_step 3 rfl, e2, run_step 2 rfl, step1c, run_step 1 rfl, step1d, run_step 0 rfl, step1e]; rfl
      exact ⟨by rw [this], by rw [this]; rfl, by rw [this]⟩
    · have go : ∃ j sn', j ≤ 3 ∧ 0 < j ∧ M.runFor j (at1 text st st o sn) = (if st < text.size then at1 text (st + 1) (st + 1) false sn' else { at1 text st st o sn' with frames := [], weight := 0, answer := some false }) := by
        by_cases h1 : ln text st = true
        · have e1 := step1a text st st o sn
          rw [if_pos h1] at e1
          have e2 := step1b text st st o ((sn.add 6).add 44)
          have e2' : ({ at1 text st st o ((sn.add 6).add 44) with pc := 7 } : M).step = { at1 text st st o (((sn.add 6).add 44).add 16) with pc := 7, answer := some false } := by
            rw [e2]
            by_cases h2 : st ≥ text.size
            · rw [if_pos h2]
            · rw [if_neg h2]
              have : (text.getD st 0 == 46) = false := by
                cases q : (text.getD st 0 == 46) with
                | false => rfl
                | true => exact absurd (by unfold hit1; rw [h1, decide_eq_true (Nat.lt_of_not_ge h2), q]; rfl) hh
              rw [this]
          exact ⟨3, _, by lia, by lia, by rw [run_step 2 rfl, e1, run_step 1 rfl, e2', run_step 0 rfl, step1f]; rfl⟩
        · have e1 := step1a text st st o sn
          rw [if_neg h1] at e1
          exact ⟨2, _, by lia, by lia, by rw [run_step 1 rfl, e1, run_step 0 rfl]; exact (step1f text st st 5 o _)⟩
      refine nng fun nG => ?_
      obtain ⟨j, sn', hj, hj0, hgo⟩ := go
      refine nG ?_
      clear nG
      rw [find1, if_neg hh]
      by_cases h2 : st < text.size
      · rw [if_pos h2] at hgo
        obtain ⟨k, hk, x⟩ := ih (st + 1) (st + 1) false sn' h2 (by lia) rfl
        exact ⟨j + k, by lia, x.more hgo⟩
      · rw [if_neg h2] at hgo
        have hn : n = 0 := by lia
        subst hn
        refine ⟨j + 1, by lia, Ends.more hgo ?_⟩
        show (M.runFor 1 _).outcome = _
        rw [run_step 0 rfl]
        exact congrArg M.outcome (step1e text st st o false st sn')
theorem next1 (text : Array Nat) (s : Nat) : ∃ k, k ≤ 5 * (text.size + 1) ∧ Ends (Sre.forSearch code1 text 0 s text.size false) ((find1 text (text.size + 1 - s) s).map fun q => (q, q + 1)) k := by
  by_cases h : s < text.size
  · rw [start1 text s h]
    obtain ⟨k, hk, x⟩ := search1 text _ s s true _ (Nat.le_of_lt h) rfl rfl
    exact ⟨k, by lia, x⟩
  · obtain ⟨m, e, hm⟩ := start1_end text s h
    have : find1 text (text.size + 1 - s) s = none := by
      cases q : text.size + 1 - s with
      | zero => rfl
      | succ n =>
        have hn : n = 0 := by lia
        subst hn
        rw [find1, if_neg (by unfold hit1; rw [decide_eq_false h]; simp)]; rfl
    rw [this, e]
    exact ⟨1, by lia, hm⟩
end Mine.Internal
end
section
open PySem PySem.W PySem.Calls PyProof.Rows PySem.Builtin
set_option Elab.async false
set_option linter.unusedVariables false
set_option maxRecDepth 20000
namespace Mine.Internal
open PySem.Sre (M)

noncomputable abbrev fN (q : Nat) (o : Bool) : Sre.Frame := { wait := .nextStart, pc := 10, pos := q, outermost := o }
noncomputable abbrev fB (p q : Nat) (o : Bool) : Sre.Frame := { wait := .nextBranch, pc := p, pos := q, outermost := o }
noncomputable abbrev at2 (text : Array Nat) (q pc pos hd : Nat) (out : Bool) (fr : List Sre.Frame) (w : Nat) (ans : Option Bool) (sn : Sre.Seen) : M :=
  { code := code2, text, lim := text.size, start := q, lastStart := text.size, pc, pos, handed := hd, outermost := out, marks := #[], frames := fr, weight := w, answer := ans, seen := sn }

section
variable (text : Array Nat) (q pos hd w p : Nat) (o out b : Bool) (fr : List Sre.Frame) (sn : Sre.Seen)
noncomputable def lit (text : Array Nat) (pos c : Nat) : Bool := decide (pos < text.size) && text.getD pos 0 == c
theorem l12 : (at2 text q 12 pos hd out fr w none sn).step = if pos ≥ text.size then at2 text q 12 pos hd out fr w (some false) (sn.add 16) else
    match text.getD pos 0 == 13 with | false => at2 text q 12 pos hd out fr w (some false) (sn.add 16) | true => at2 text q 14 (pos + 1) hd out fr w none (sn.add 16) := by kernel_rfl
theorem l14 : (at2 text q 14 pos hd out fr w none sn).step = if pos ≥ text.size then at2 text q 14 pos hd out fr w (some false) (sn.add 16) else
    match text.getD pos 0 == 10 with | false => at2 text q 14 pos hd out fr w (some false) (sn.add 16) | true => at2 text q 16 (pos + 1) hd out fr w none (sn.add 16) := by kernel_rfl
theorem l19 : (at2 text q 19 pos hd out fr w none sn).step = if pos ≥ text.size then at2 text q 19 pos hd out fr w (some false) (sn.add 16) else
    match text.getD pos 0 == 10 with | false => at2 text q 19 pos hd out fr w (some false) (sn.add 16) | true => at2 text q 21 (pos + 1) hd out fr w none (sn.add 16) := by kernel_rfl
theorem l24 : (at2 text q 24 pos hd out fr w none sn).step = if pos ≥ text.size then at2 text q 24 pos hd out fr w (some false) (sn.add 16) else
    match text.getD pos 0 == 13 with | false => at2 text q 24 pos hd out fr w (some false) (sn.add 16) | true => at2 text q 26 (pos + 1) hd out fr w none (sn.add 16) := by kernel_rfl
theorem l29 : (at2 text q 29 pos hd out fr w none sn).step = if pos ≥ text.size then at2 text q 29 pos hd out fr w (some false) (sn.add 16) else
    match text.getD pos 0 == 10 with | false => at2 text q 29 pos hd out fr w (some false) (sn.add 16) | true => at2 text q 31 (pos + 1) hd out fr w none (sn.add 16) := by kernel_rfl
theorem j16 : (at2 text q 16 pos hd out fr w none sn).step = at2 text q 35 pos hd out fr w none (sn.add 15) := by kernel_rfl
theorem j21 : (at2 text q 21 pos hd out fr w none sn).step = at2 text q 35 pos hd out fr w none (sn.add 15) := by kernel_rfl
theorem j32 : (at2 text q 32 pos hd out fr w none sn).step = at2 text q 35 pos hd out fr w none (sn.add 15) := by kernel_rfl
theorem s35 : (at2 text q 35 pos hd out fr w none sn).step = at2 text q 35 pos pos out fr w (some true) (sn.add 1) := by cases out <;> kernel_rfl
theorem b10 : (at2 text q 10 pos hd out [fN q o] 1 none sn).step = at2 text q 12 pos pos out [fB 11 pos out, fN q o] 2 none (sn.add 7) := by kernel_rfl

variable (pp : Nat)
theorem r11 : (at2 text q p pp hd b [fB 11 pos out, fN q o] 2 (some false) sn).step = at2 text q 19 pos pos out [fB 18 pos out, fN q o] 2 none sn := by kernel_rfl
theorem r18 : (at2 text q p pp hd b [fB 18 pos out, fN q o] 2 (some false) sn).step = at2 text q 24 pos pos out [fB 23 pos out, fN q o] 2 none sn := by kernel_rfl
theorem a26 : (at2 text q 26 pos hd out [fB 23 pp out, fN q o] 2 none sn).step = at2 text q 29 pos pos false [{ wait := .lookNot, pc := 26, pos := pos, outermost := out }, fB 23 pp out, fN q o] 3 none (sn.add 5) := by kernel_rfl
theorem r26 (u : Nat) : (at2 text q p u hd b [{ wait := .lookNot, pc := 26, pos := pos, outermost := out }, fB 23 pp out, fN q o] 3 (some false) sn).step = at2 text q 32 pos hd out [fB 23 pp out, fN q o] 2 none sn := by kernel_rfl
theorem yB (u v : Nat) : (at2 text q p u hd b [fB v pp out, fN q o] 2 (some true) sn).step = at2 text q v pp hd out [fN q o] 1 (some true) sn := by kernel_rfl
theorem yN (u : Nat) : (at2 text q p u hd b [fN q o] 1 (some true) sn).step = at2 text q 10 q hd o [] 0 (some true) sn := by kernel_rfl
theorem yE : (at2 text q 10 q hd o [] 0 (some true) sn).step = { at2 text q 10 q hd o [] 0 (some true) sn with outcome := some .matched } := by kernel_rfl
end

theorem Ends.st {m m' : M} {a : Option (Nat × Nat)} {k : Nat} (h0 : m.outcome.isSome = false) (h : m.step = m') (x : Ends m' a k) : Ends m a (k + 1) := by
  unfold Ends at x ⊢
  rw [run_step k h0, h]
  exact x
theorem lt_y {X a b : M} {p : Prop} [Decidable p] {q : Bool} (h : X = if p then a else match q with | false => a | true => b) (hp : ¬ p) (hq : q = true) : X = b := by rw [h, if_neg hp, hq]
theorem lt_n {X a b : M} {p : Prop} [Decidable p] {q : Bool} (h : X = if p then a else match q with | false => a | true => b) (hq : ¬ p → q = false) : X = a := by
  rw [h]
  by_cases hp : p
  · rw [if_pos hp]
  · rw [if_neg hp, hq hp]
theorem fin2 (text : Array Nat) (q v pp pos hd : Nat) (o out : Bool) (sn : Sre.Seen) : Ends (at2 text q 35 pos hd out [fB v pp out, fN q o] 2 none sn) (some (q, pos)) 4 :=
  Ends.st rfl (s35 ..) <| Ends.st rfl (yB ..) <| Ends.st rfl (yN ..) <| Ends.st (a := some (q, pos)) (k := 0) rfl (yE ..) <| And.intro rfl <| And.intro rfl rfl

noncomputable def wide2 (text : Array Nat) (q : Nat) : Nat := if text.getD q 0 == 13 && lit text (q + 1) 10 then q + 2 else q + 1
theorem get_of {text : Array Nat} {q c : Nat} (h : (text.getD q 0 == c) = true) (d : Nat) (hd : c ≠ d) : (text.getD q 0 == d) = false := by
  rw [beq_iff_eq] at h; rw [h]; simp [hd]
theorem match2 (text : Array Nat) (q : Nat) (o : Bool) (sn : Sre.Seen) (hq : q < text.size) (hc : text.getD q 0 = 10 ∨ text.getD q 0 = 13) :
    ∃ k, k ≤ 20 ∧ Ends (at2 text q 10 q q o [fN q o] 1 none sn) (some (q, wide2 text q)) k := by
  have hn : ¬ q ≥ text.size := Nat.not_le_of_lt hq
  rcases hc with hc | hc
  · -- a feed
    have h13 : (text.getD q 0 == 13) = false := by rw [hc]; rfl
    have h10 : (text.getD q 0 == 10) = true := by rw [hc]; rfl
    have hw : wide2 text q = q + 1 := by unfold wide2; rw [h13]; rfl
    rw [hw]
    exact ⟨_, by decide, Ends.st rfl (b10 ..) (Ends.st rfl (lt_n (l12 ..) fun _ => h13) (Ends.st rfl (r11 ..) (Ends.st rfl (lt_y (l19 ..) hn h10) (Ends.st rfl (j21 ..) (fin2 ..)))))⟩
  · have h13 : (text.getD q 0 == 13) = true := by rw [hc]; rfl
    have h10 : (text.getD q 0 == 10) = false := by rw [hc]; rfl
    by_cases hl : lit text (q + 1) 10 = true
    · have hw : wide2 text q = q + 2 := by unfold wide2; rw [h13, hl]; rfl
      unfold lit at hl
      simp only [Bool.and_eq_true, decide_eq_true_eq] at hl
      rw [hw]
      exact ⟨_, by decide, Ends.st rfl (b10 ..) (Ends.st rfl (lt_y (l12 ..) hn h13) (Ends.st rfl (lt_y (l14 ..) (Nat.not_le_of_lt hl.1) hl.2) (Ends.st rfl (j16 ..) (fin2 ..))))⟩
    · have hw : wide2 text q = q + 1 := by unfold wide2; rw [h13, Bool.eq_false_iff.mpr hl]; rfl
      have no : ¬ q + 1 ≥ text.size → (text.getD (q + 1) 0 == 10) = false := fun h2 => by
        cases z : (text.getD (q + 1) 0 == 10) with
        | false => rfl
        | true => exact absurd (by unfold lit; rw [decide_eq_true (Nat.lt_of_not_ge h2), z]; rfl) hl
      rw [hw]
      exact ⟨_, by decide, Ends.st rfl (b10 ..) (Ends.st rfl (lt_y (l12 ..) hn h13) (Ends.st rfl (lt_n (l14 ..) no) (Ends.st rfl (r11 ..) (Ends.st rfl (lt_n (l19 ..) fun _ => h10) (Ends.st rfl (r18 ..) (Ends.st rfl (lt_y (l24 ..) hn h13) (Ends.st rfl (a26 ..)
        (Ends.st rfl (lt_n (l29 ..) no) (Ends.st rfl (r26 ..) (Ends.st rfl (j32 ..) (fin2 ..)))))))))))⟩

noncomputable def hit2 (text : Array Nat) (s : Nat) : Bool := decide (s < text.size) && (text.getD s 0 == 10 || text.getD s 0 == 13)
noncomputable def find2 (text : Array Nat) : Nat → Nat → Option Nat
  | 0, _ => none
  | n + 1, s => if hit2 text s = true then some s else find2 text n (s + 1)
theorem set2 (c : Nat) (sn : Sre.Seen) : ∃ sn', Sre.inSet code2 c code2.size 5 true sn = .ok (c == 10 || c == 13, sn') := by
  have e : Sre.inSet code2 c 36 5 true sn = if (c == 10) = true then .ok (true, sn.add 16) else if (c == 13) = true then .ok (true, (sn.add 16).add 16) else .ok (false, ((sn.add 16).add 16).add 0) := by kernel_rfl
  rw [show code2.size = 36 from rfl, e]
  cases h : (c == 10)
  · cases h2 : (c == 13)
    · exact ⟨_, rfl⟩
    · exact ⟨_, rfl⟩
  · exact ⟨_, rfl⟩
theorem adm2 (text : Array Nat) (m : M) (h1 : m.code = code2) (h2 : m.text = text) (h3 : m.lim = text.size) : ∀ (n s : Nat) (sn : Sre.Seen), ∃ sn', M.admitted m n s sn = .ok (find2 text n s, sn') := by
  intro n
  induction n with
  | zero => intro s sn; exact ⟨sn, rfl⟩
  | succ n ih =>
    intro s sn
    rw [M.admitted, h1, h2, h3, find2]
    by_cases hs : s ≥ text.size
    · rw [if_pos hs, if_neg (by unfold hit2; rw [decide_eq_false (by omega)]; simp)]
      have : ∀ n s, s ≥ text.size → find2 text n s = none := by
        intro n
        induction n with
        | zero => intro s _; rfl
        | succ n ih => intro s h; rw [find2, if_neg (by unfold hit2; rw [decide_eq_false (by omega)]; simp)]; exact ih _ (by omega)
      rw [this n (s + 1) (by omega)]
      exact ⟨sn, rfl⟩
    · rw [if_neg hs]
      obtain ⟨sn', e⟩ := set2 (text.getD s 0) sn
      rw [e]
      have hh : hit2 text s = (text.getD s 0 == 10 || text.getD s 0 == 13) := by unfold hit2; rw [decide_eq_true (by omega)]; rfl
      rw [hh]
      cases q : (text.getD s 0 == 10 || text.getD s 0 == 13)
      · exact ih (s + 1) sn'
      · exact ⟨sn', rfl⟩
theorem find2_some {text : Array Nat} : ∀ {n s q : Nat}, find2 text n s = some q → hit2 text q = true
  | n + 1, s, q, h => by
    rw [find2] at h
    split at h
    · rename_i hh; cases h; exact hh
    · exact find2_some h
theorem next2 (text : Array Nat) (s : Nat) : ∃ k, k ≤ 21 ∧ Ends (Sre.forSearch code2 text 0 s text.size false) ((find2 text (text.size + 1 - s) s).map fun q => (q, wide2 text q)) k := by
  by_cases h : s < text.size
  · have h1 : ¬ s > text.size := by omega
    have h2 : ¬ text.size - s < 1 := by omega
    let m0 : M := { code := code2, text, lim := text.size, start := s, lastStart := text.size, pc := 10, pos := s, handed := s, marks := #[], seen := ({} : Sre.Seen).add 14 }
    have e : Sre.forSearch code2 text 0 s text.size false = M.attemptFrom m0 s true := by
      show (if (decide (s > text.size) || decide (text.size - s < 1)) = true then _ else _) = _
      rw [decide_eq_false h1, decide_eq_false h2]
      rfl
    have e2 : M.attemptFrom m0 s true = match M.admitted m0 (text.size + 1 - s) s (({} : Sre.Seen).add 14) with
        | .ok (some q, sn) => at2 text q 10 q q true [fN q true] 1 none sn
        | .ok (none, sn) => { m0 with seen := sn, answer := some false }
        | .error why => m0.stick why := by kernel_rfl
    obtain ⟨sn', e3⟩ := adm2 text m0 rfl rfl rfl (text.size + 1 - s) s (({} : Sre.Seen).add 14)
    rw [e, e2, e3]
    cases hf : find2 text (text.size + 1 - s) s with
    | none => exact ⟨1, by omega, rfl⟩
    | some q =>
      have hh := find2_some hf
      unfold hit2 at hh
      simp only [Bool.and_eq_true, decide_eq_true_eq, Bool.or_eq_true, beq_iff_eq] at hh
      refine nng fun nG => ?_
      obtain ⟨k, hk, x⟩ := match2 text q true sn' hh.1 hh.2
      refine nG ?_
      clear nG
      exact ⟨k, by omega, x⟩
  · have : find2 text (text.size + 1 - s) s = none := by
      cases q : text.size + 1 - s with
      | zero => rfl
      | succ n =>
        have hn : n = 0 := by omega
        subst hn
        rw [find2, if_neg (by unfold hit2; rw [decide_eq_false h]; simp)]; rfl
    rw [this]
    refine ⟨1, by omega, ?_⟩
    have h2 : (decide (s > text.size) || decide (text.size - s < 1)) = true := by
      rw [Bool.or_eq_true, decide_eq_true_iff, decide_eq_true_iff]; omega
    show (M.runFor 1 (if (decide (s > text.size) || decide (text.size - s < 1)) = true then _ else _)).outcome = _
    rw [h2]
    rfl
end Mine.Internal
end
section
open PySem PySem.W PySem.Calls PyProof.Rows PySem.Builtin PySem.Builtin.Re
set_option Elab.async false
set_option linter.unusedVariables false
set_option maxRecDepth 100000
namespace Mine.Internal
open PySem.Sre (M)

theorem slot_sub : Slot "re.Pattern" "sub" "re.Pattern.sub" :=
  .of (owner := "re.Pattern") (n := "sub") (by rw [typeLookup_type, builtinLookup_eq_fast]; kernel_rfl) (by decide +kernel) (by decide +kernel) (by decide +kernel)
    (by first | exact .inl (by decide +kernel) | exact .inr (by decide +kernel)) (by rw [isSubtype_type]; kernel_rfl)
theorem type_sub : typeOf (.builtin "re.Pattern.sub") = pure (.type "method_descriptor") := by show builtinType _ = _; rw [builtinType_eq_fast]; kernel_rfl
theorem entry_sub : entryFor table "re.Pattern.sub" = some Builtin.«re.Pattern.sub» := entryFor_of_tree (by kernel_rfl)
theorem entry_loop : entryFor table "re.Pattern.sub.loop" = some Builtin.«re.Pattern.sub.loop» := entryFor_of_tree (by kernel_rfl)
theorem args_sub (a b c : Value) : argsOk "re.Pattern.sub" ⟨[a, b, c], []⟩ := by unfold argsOk; kernel_rfl
theorem plain_re : PlainAttrs "re.Pattern" := ⟨⟨"object.__getattribute__", by rw [typeLookup_type, builtinLookup_eq_fast]; kernel_rfl, by decide +kernel⟩, by rw [typeLookup_type, builtinLookup_eq_fast]; kernel_rfl⟩

structure Pat (h : Heap) (p : Addr) (code : Array Nat) : Prop where
  ex : ∀ P : Prop, (∀ (o : Obj) (fs : Array Value) (T : Addr) (oT : Obj) (its : Array Value) (n : Nat), h.get? p = some o → o.cls = .type "re.Pattern" → o.dict = none → o.data = .fields fs → fs.getD 6 .none = rawInt 0 → fs.getD 5 .none = .ref T → fs.getD 2 .none = rawInt 0 →
    h.get? T = some oT → oT.cls = .type "tuple" → oT.data = .seq its n → (its.map reRawOf).map (·.toNat) = code → P) → P
theorem Pat.mv {h h' : Heap} {p : Addr} {code : Array Nat} (P : Pat h p code) (k : ∀ b o, o.cls ≠ .type "list" → h.get? b = some o → h'.get? b = some o) : Pat h' p code :=
  ⟨fun _ q => P.ex _ fun o fs T oT its n h1 h2 h3 h4 h5 h6 h7 h8 hc h9 h10 => q o fs T oT its n (k _ _ (by rw [h2]; simp) h1) h2 h3 h4 h5 h6 h7 (k _ _ (by rw [hc]; simp) h8) hc h9 h10⟩
theorem Pat.keeps {h h' : Heap} {p : Addr} {code : Array Nat} (P : Pat h p code) (k : ∀ b o, h.get? b = some o → h'.get? b = some o) : Pat h' p code := P.mv fun b o _ => k b o

section
variable {prog : Program} {w : World} {A : Around} {E : Value → Shared → Prop} {s : Shared} {p : Addr} {code : Array Nat} {X : Str} {t : Tok}

theorem drive {m' : M} {Q : M → Shared → Prop} (h : Q m' s) : ∀ (n k : Nat) (m : M), M.runFor k m = m' → m'.outcome.isSome = true → k ≤ 4 * n → 0 < n → wpAny (model prog w) A (reDrive n m) Q E s := by
  intro n
  induction n with
  | zero => intro k m _ _ _ h0; omega
  | succ n ih =>
    intro k m e ho hk _
    show wpAny _ _ (if (M.runFor 4 m).outcome.isSome = true then pure (M.runFor 4 m) else (do rule "sre.turn"; reDrive n (M.runFor 4 m))) _ _ _
    have key : (M.runFor 4 m).outcome.isSome = true → M.runFor 4 m = m' := fun hs => by
      by_cases h4 : k ≤ 4
      · have : M.runFor 4 m = M.runFor (4 - k) m' := by
          rw [← e, ← run_add]; congr 1; omega
        rw [this, run_done _ ho]
      · have : m' = M.runFor (k - 4) (M.runFor 4 m) := by rw [← run_add, ← e]; congr 1; omega
        rw [this, run_done _ hs]
    by_cases hs : (M.runFor 4 m).outcome.isSome = true
    · rw [if_pos hs, key hs]; exact wpAny_pure h
    · rw [if_neg hs]
      refine wpAny_bind (wpAny_rule ?_)
      have h4 : 4 < k := by
        by_cases h4 : k ≤ 4
        · exfalso
          have : M.runFor 4 m = M.runFor (4 - k) m' := by rw [← e, ← run_add]; congr 1; omega
          rw [this, run_done _ ho] at hs
          exact hs ho
        · omega
      exact ih (k - 4) (M.runFor 4 m) (by rw [← run_add, ← e]; congr 1; omega) ho (by omega) (by omega)
theorem says (m : M) : ∀ (l : List Nat) (Q : PUnit → Shared → Prop), Q ⟨⟩ s → wpAny (model prog w) A (forIn l PUnit.unit fun i r => if m.seen.has i = true then (do rule (Sre.names.getD i ""); pure (ForInStep.yield PUnit.unit)) else pure (ForInStep.yield PUnit.unit)) Q E s
  | [], Q, h => by rw [List.forIn_nil]; exact wpAny_pure h
  | i :: l, Q, h => by
    rw [List.forIn_cons]
    refine wpAny_bind ?_
    by_cases hh : m.seen.has i = true
    · rw [if_pos hh]; exact wpAny_bind (wpAny_rule (wpAny_pure (says m l Q h)))
    · rw [if_neg hh]; exact wpAny_pure (says m l Q h)
theorem run_end {m : M} {a : Option (Nat × Nat)} {k : Nat} {Q : Option M → Shared → Prop} (x : Ends m a k) (hk : k ≤ 2 ^ 60)
    (h : match a with | some p => ∀ m', m'.start = p.1 → m'.handed = p.2 → Q (some m') s | none => Q none s) : wpAny (model prog w) A (reRunToEnd m) Q E s := by
  unfold reRunToEnd
  refine wpAny_bind (drive (m' := M.runFor k m) ?_ (2 ^ 64) k m rfl ?_ (by omega) (by omega))
  · refine wpAny_bind ?_
    refine wpAny_mono (says (M.runFor k m) _ (fun _ s' => s' = s) rfl) (fun _ s' e => ?_) fun _ _ q => q
    subst e
    cases a with
    | none => rw [show (M.runFor k m).outcome = _ from x]; exact wpAny_pure h
    | some p => rw [x.1]; exact wpAny_pure (h _ x.2.1 x.2.2)
  · cases a with
    | none => rw [show (M.runFor k m).outcome = _ from x]; rfl
    | some p => rw [x.1]; rfl

theorem whole {Q : ReTarget → Shared → Prop} (P : Pat s.heap p code) (h : Q ⟨.ref p, .str X t, code, X.cps, 0, 0, 0, X.cps.size⟩ s) : wpAny (model prog w) A (reWholeTarget (.ref p) (.str X t)) Q E s := by
  refine P.ex _ fun o fs T oT its n h1 h2 h3 h4 h5 h6 h7 h8 hc h9 h10 => ?_
  unfold reWholeTarget
  refine wpAny_bind ?_
  unfold fieldsOf
  refine wpAny_bind (wpAny_load h1 ?_)
  rw [h4]
  refine wpAny_pure ?_
  rw [h5, h6, h7]
  refine wpAny_bind (wpAny_pure ?_)
  show wpAny _ _ (reRawItems (.ref T) >>= _) _ _ _
  unfold reRawItems
  refine wpAny_bind (wpAny_bind (wpAny_seqItems h8 h9 (wpAny_pure ?_)))
  refine wpAny_pure ?_
  show Q ⟨.ref p, .str X t, (its.map reRawOf).map (·.toNat), X.cps, 0, 0, 0, X.cps.size⟩ s
  rw [h10]; exact h
end
end Mine.Internal
end
section
open PySem PySem.W PySem.Calls PyProof.Rows PySem.Builtin PySem.Builtin.Re
set_option Elab.async false
set_option linter.unusedVariables false
set_option maxRecDepth 100000
namespace Mine.Internal
open PySem.Sre (M)

noncomputable def piece (X : Str) (b e : Nat) : Str := ⟨X.cps.extract b e⟩
noncomputable def subRest (X r : Str) (nxt : Nat → Option (Nat × Nat)) : Nat → Nat → List Str
  | 0, _ => []
  | n + 1, d => match nxt d with
    | some p => (if d < p.1 then [piece X d p.1] else []) ++ r :: subRest X r nxt n p.2
    | none => if d < X.cps.size then [piece X d X.cps.size] else []

structure Nxt (code : Array Nat) (X : Str) (nxt : Nat → Option (Nat × Nat)) : Prop where
  runs : ∀ s, ∃ k, k ≤ 2 ^ 60 ∧ Ends (Sre.forSearch code X.cps 0 s X.cps.size false) (nxt s) k
  step : ∀ s p, nxt s = some p → s ≤ p.1 ∧ p.1 < p.2 ∧ p.2 ≤ X.cps.size

section
variable {prog : Program} {w : World} {A : Around} {E : Value → Shared → Prop} {s : Shared} {p : Addr} {code : Array Nat} {X r : Str} {t u : Tok} {nxt : Nat → Option (Nat × Nat)}

theorem push_ok {l : Addr} {its : Array Value} {v : Value} {Q : Unit → Shared → Prop} (hl : s.heap.PlainList l its) (hz : its.size ≤ 20000)
    (h : ∀ h', h'.PlainList l (its.push v) → (∀ b o, b ≠ l → s.heap.get? b = some o → h'.get? b = some o) → Q () { s with heap := h' }) : wpAny (model prog w) A (updateSeq l (·.push v)) Q E s := by
  obtain ⟨n, ho⟩ := hl
  refine wpAny_updateSeq ho rfl (h _ ⟨n + 1, ?_⟩ (Heap.SameBut.update ..).extBut) (Nat.le_trans hz (by decide)) (by rw [Array.size_push]; exact Nat.succ_le_succ (Nat.le_trans hz (by decide)))
  rw [Heap.get?_update_self _ ho (by rw [Obj.mapSeq_push_plain]; rfl), Obj.mapSeq_push_plain]
theorem slice_ok {b e : Nat} {Q : Value → Shared → Prop} (hX : X.cps.size ≤ 10000) (h : Q (.str (piece X b e) s.toks) { s with toks := s.toks + 1 }) : wpAny (model prog w) A (reSlice X.cps 0 b e) Q E s := by
  show wpAny _ _ (mkStr (piece X b e)) _ _ _
  refine wpAny_mkStr h (Nat.le_trans ?_ (Nat.le_trans hX (by decide)))
  show (X.cps.extract b e).size ≤ _
  rw [Array.size_extract]; omega
theorem strs_push (vs : List (Str × Tok)) (x : Str) (t : Tok) : (strValues vs).toArray.push (.str x t) = (strValues (vs ++ [(x, t)])).toArray := by simp [strValues]
theorem strs_size (vs : List (Str × Tok)) : (strValues vs).toArray.size = vs.length := by simp [strValues]

theorem plain_ne {h : Heap} {l b : Addr} {its : Array Value} {o : Obj} (hl : h.PlainList l its) (e : h.get? b = some o) (hc : o.cls ≠ .type "list") : b ≠ l := fun q => hl.elim fun n g => by
  rw [q, g] at e
  cases e
  exact hc rfl
theorem loop_ok (N : Nxt code X nxt) (hX : X.cps.size ≤ 4096) {R : Result → Shared → Prop} : ∀ (n d : Nat) (c : Int) (l : Addr) (vs : List (Str × Tok)) (s : Shared), X.cps.size + 1 - d ≤ n → d ≤ X.cps.size → Pat s.heap p code → s.heap.PlainList l (strValues vs).toArray → vs.length + 2 * n ≤ 10000 →
    (∀ l' : List Str, l' = vs.map (·.1) ++ subRest X r nxt n d → JoinOk ⟨#[]⟩ l' = true) →
    (∀ h' tk t', (∀ b o, b ≠ l → s.heap.get? b = some o → h'.get? b = some o) → R (.ok (.ret (.str (Txt.join ⟨#[]⟩ (vs.map (·.1) ++ subRest X r nxt n d)) t'))) { s with heap := h', toks := tk }) →
    codeAny (model prog w) A (.builtin "re.Pattern.sub.loop" ⟨[.ref p, .str X t, .str r u, rawInt 0, rawInt 0, rawInt c, rawInt d, rawInt d, .bool false, .ref l, .bool false], []⟩) R s := by
  intro n
  induction n with
  | zero => intro d c l vs s e hd; omega
  | succ n ih =>
    intro d c l vs s e hd P hl hlen hj hR
    refine codeAny_builtin entry_loop ?_
    show wpAny _ _ (reWholeTarget (.ref p) (.str X t) >>= _) _ _ _
    refine wpAny_bind (whole P ?_)
    refine wpAny_bind (wpAny_bind (wpAny_pure ?_))
    refine wpAny_pure ?_
    show wpAny _ _ (reRunToEnd (Sre.forSearch code X.cps 0 d X.cps.size false) >>= _) _ _ _
    obtain ⟨k, hk, x⟩ := N.runs d
    refine wpAny_bind (run_end x hk ?_)
    cases hn : nxt d with
    | none =>
      have hrest : subRest X r nxt (n + 1) d = if d < X.cps.size then [piece X d X.cps.size] else [] := by rw [subRest, hn]
      show wpAny _ _ ((if (d : Int).toNat < X.cps.size then _ else _) : Sem _) _ _ _
      have fin : ∀ (vs' : List (Str × Tok)) (s' : Shared), s'.heap.PlainList l (strValues vs').toArray → vs'.map (·.1) = vs.map (·.1) ++ subRest X r nxt (n + 1) d → (∃ h' tk, s' = { s with heap := h', toks := tk } ∧ ∀ b o, b ≠ l → s.heap.get? b = some o → h'.get? b = some o) →
          wpAny (model prog w) (A.under (.builtin "re.Pattern.sub.loop" ⟨[.ref p, .str X t, .str r u, rawInt 0, rawInt 0, rawInt c, rawInt d, rawInt d, .bool false, .ref l, .bool false], []⟩)) (do
            let joiner ← reSlice X.cps 0 0 0
            let text ← if ((← seqItems? (.ref l)).getD #[]).isEmpty then pure joiner else call (.builtin "str.join") [joiner, .ref l]
            ret text) (fun fin s' => match fin with | .done f => R (.ok f) s' | .again c' => c'.quiet = true ∧ codeAny (model prog w) A c' R s') (fun e s' => R (.error e) s') s' := by
        intro vs' s' hl' hvs hs'
        refine nng fun nG => ?_
        obtain ⟨h', tk, rfl, hk'⟩ := hs'
        refine nG ?_
        clear nG
        refine wpAny_bind (slice_ok (Nat.le_trans hX (by decide)) ?_)
        have hemp : piece X 0 0 = ⟨#[]⟩ := by unfold piece; simp
        rw [hemp]
        refine nng fun nG => ?_
        obtain ⟨o, ho, hc, nn, hd'⟩ := hl'.isList
        refine nG ?_
        clear nG
        refine wpAny_bind (wpAny_seqItems (s := { s with heap := h', toks := tk + 1 }) ho hd' ?_)
        show wpAny _ _ (if (strValues vs').toArray.isEmpty = true then _ else _) _ _ _
        by_cases hv : (strValues vs').toArray.isEmpty = true
        · rw [if_pos hv]
          refine wpAny_bind (wpAny_pure (wpAny_pure ?_))
          have hv0 : vs' = [] := by
            cases vs' with
            | nil => rfl
            | cons a b => simp [strValues] at hv
          have := hR h' (tk + 1) tk hk'
          rw [← hvs, hv0] at this
          exact this
        · rw [if_neg hv]
          refine wpAny_bind (SC.join (s := { s with heap := h', toks := tk + 1 }) hl'.isList rfl (hj _ hvs) fun t' k' => ?_)
          refine wpAny_pure ?_
          rw [hvs]
          exact hR h' k' t' hk'
      by_cases hlt : d < X.cps.size
      · rw [if_pos (by simpa using hlt)]
        rw [if_pos hlt] at hrest
        refine wpAny_bind (slice_ok (Nat.le_trans hX (by decide)) (wpAny_bind (push_ok (s := { s with toks := s.toks + 1 }) hl (by rw [strs_size]; omega) fun h' hl' hk' => ?_)))
        refine fin (vs ++ [(piece X d X.cps.size, s.toks)]) { s with heap := h', toks := s.toks + 1 } (by rw [← strs_push]; exact hl') (by rw [hrest]; simp) ⟨h', s.toks + 1, rfl, hk'⟩
      · rw [if_neg (by simpa using hlt)]
        rw [if_neg hlt] at hrest
        exact (fin vs s hl (by rw [hrest]; simp) ⟨s.heap, s.toks, rfl, fun _ _ _ e => e⟩)
    | some pq =>
      refine nng fun nG => ?_
      obtain ⟨q, e'⟩ := pq
      obtain ⟨hq1, hq2, hq3⟩ := N.step d _ hn
      refine nG ?_
      clear nG
      simp only at hq1 hq2 hq3
      intro m' hm1 hm2
      simp only at hm1 hm2
      have hrest : subRest X r nxt (n + 1) d = (if d < q then [piece X d q] else []) ++ r :: subRest X r nxt n e' := by rw [subRest, hn]
      have again_ok : ∀ (vs' : List (Str × Tok)) (s' : Shared), s'.heap.PlainList l (strValues vs').toArray → vs'.length ≤ vs.length + 1 → vs'.map (·.1) = vs.map (·.1) ++ (if d < q then [piece X d q] else []) → (∃ h' tk, s' = { s with heap := h', toks := tk } ∧ ∀ b o, b ≠ l → s.heap.get? b = some o → h'.get? b = some o) →
          wpAny (model prog w) (A.under (.builtin "re.Pattern.sub.loop" ⟨[.ref p, .str X t, .str r u, rawInt 0, rawInt 0, rawInt c, rawInt d, rawInt d, .bool false, .ref l, .bool false], []⟩)) (do
            updateSeq l (·.push (.str r u))
            again (.builtin "re.Pattern.sub.loop" ⟨[.ref p, .str X t, .str r u, rawInt 0, rawInt 0, rawInt (c + 1), rawInt m'.handed, rawInt m'.handed, .bool (m'.handed == m'.start), .ref l, .bool false], []⟩))
            (fun fin s' => match fin with | .done f => R (.ok f) s' | .again c' => c'.quiet = true ∧ codeAny (model prog w) A c' R s') (fun e s' => R (.error e) s') s' := by
        intro vs' s' hl' hlen' hvs hs'
        obtain ⟨h', tk, rfl, hk'⟩ := hs'
        refine wpAny_bind (push_ok hl' (by rw [strs_size]; omega) fun h2 hl2 hk2 => wpAny_pure ⟨Code.quiet_builtin _ (by decide +kernel), ?_⟩)
        have hne : (e' == q) = false := by simp; omega
        rw [hm1, hm2, hne]
        have hP2 : Pat h2 p code := P.mv fun b o hc e =>
          have hb := plain_ne hl e hc
          hk2 _ _ hb (hk' _ _ hb e)
        have hcat : (vs' ++ [(r, u)]).map (·.1) ++ subRest X r nxt n e' = vs.map (·.1) ++ subRest X r nxt (n + 1) d := by
          rw [hrest, List.map_append, hvs]; simp
        refine ih e' (c + 1) l (vs' ++ [(r, u)]) { s with heap := h2, toks := tk } (by omega) hq3 hP2 (by rw [← strs_push]; exact hl2) (by rw [List.length_append, List.length_singleton]; omega) (fun l' e => hj l' (by rw [e, hcat])) fun h3 tk3 t3 k3 => ?_
        rw [hcat]
        exact hR h3 tk3 t3 fun b o hb eo => k3 b o hb (hk2 b o hb (hk' b o hb eo))
      by_cases hlt : d < q
      · show wpAny _ _ ((if (d : Int).toNat < m'.start then _ else _) : Sem _) _ _ _
        rw [if_pos (by rw [hm1]; simpa using hlt)]
        refine wpAny_bind (slice_ok (Nat.le_trans hX (by decide)) (wpAny_bind (push_ok (s := { s with toks := s.toks + 1 }) hl (by rw [strs_size]; omega) fun h' hl' hk' => ?_)))
        refine again_ok (vs ++ [(piece X d m'.start, s.toks)]) { s with heap := h', toks := s.toks + 1 } (by rw [← strs_push]; exact hl') (by simp) (by rw [if_pos hlt, hm1]; simp) ⟨h', s.toks + 1, rfl, hk'⟩
      · show wpAny _ _ ((if (d : Int).toNat < m'.start then _ else _) : Sem _) _ _ _
        rw [if_neg (by rw [hm1]; simpa using hlt)]
        exact again_ok vs s hl (by omega) (by rw [if_neg hlt]; simp) ⟨s.heap, s.toks, rfl, fun _ _ _ e => e⟩
end
end Mine.Internal
end
section
open PySem PySem.W PySem.Calls PyProof.Rows PySem.Builtin PySem.Builtin.Re PySem.Builtin.Str
set_option Elab.async false
set_option linter.unusedVariables false
namespace Mine.Internal

noncomputable def flat (l : List Str) : List Nat := l.flatMap fun x => x.cps.toList
theorem join_flat : ∀ l : List Str, (Str.join ⟨#[]⟩ l).cps.toList = flat l
  | [] => rfl
  | [x] => by simp [Str.join, flat]
  | x :: y :: r => by
    have e : Str.join ⟨#[]⟩ (x :: y :: r) = x ++ ⟨#[]⟩ ++ Str.join ⟨#[]⟩ (y :: r) := rfl
    have e2 : (x ++ ⟨#[]⟩ ++ Str.join ⟨#[]⟩ (y :: r)).cps = x.cps ++ #[] ++ (Str.join ⟨#[]⟩ (y :: r)).cps := rfl
    rw [e, e2, Array.toList_append, Array.toList_append, join_flat (y :: r)]
    simp [flat]
theorem glued_flat (l : List Str) : (Txt.join ⟨#[]⟩ l).cps.toList = flat l := by
  rw [← join_flat]
  exact congrArg (fun x : Str => x.cps.toList) (StrLaws.glued_eq_join ⟨#[]⟩ l)
theorem beqN (a b : Nat) : Nat.beq a b = (a == b) := by rw [Bool.eq_iff_iff]; simp
noncomputable def tot (l : List Str) : Nat := (l.map (·.length)).sum

section
variable (text : Array Nat) (r : List Nat)
theorem drop_lt {s : Nat} (h : s < text.size) : text.toList.drop s = text.getD s 0 :: text.toList.drop (s + 1) := by
  rw [List.drop_eq_getElem_cons (by simpa using h)]
  congr 1
  simp [Array.getD, h]
theorem ln_succ (s : Nat) : ln text (s + 1) = Nat.beq (text.getD s 0) 10 := by
  unfold ln
  have : (s + 1 == 0) = false := by simp
  rw [this, beqN]; rfl
theorem dot_none : ∀ (k s : Nat), text.size + 1 - s ≤ k → find1 text k s = none → dotq r (ln text s) (text.toList.drop s) = text.toList.drop s := by
  intro k
  induction k with
  | zero =>
    intro s h _
    rw [List.drop_eq_nil_of_le (by simp; lia)]; simp [dotq]
  | succ k ih =>
    intro s h e
    rw [find1] at e
    split at e
    · cases e
    · rename_i hh
      by_cases hs : s < text.size
      · rw [drop_lt text hs, dotq]
        have hc : (ln text s && Nat.beq (text.getD s 0) 46) = false := by
          unfold hit1 at hh
          rw [decide_eq_true hs, Bool.true_and] at hh
          rw [beqN]; exact Bool.eq_false_iff.mpr hh
        rw [hc, ← ln_succ, ih (s + 1) (by lia) e]; rfl
      · rw [List.drop_eq_nil_of_le (by simp; lia)]; simp [dotq]
theorem dot_some : ∀ (k s q : Nat), find1 text k s = some q → s ≤ q ∧ q < text.size ∧ dotq r (ln text s) (text.toList.drop s) = (text.toList.drop s).take (q - s) ++ r ++ dotq r (ln text (q + 1)) (text.toList.drop (q + 1)) := by
  intro k
  induction k with
  | zero => intro s q e; cases e
  | succ k ih =>
    intro s q e
    rw [find1] at e
    split at e
    · rename_i hh
      cases e
      unfold hit1 at hh
      simp only [Bool.and_eq_true, decide_eq_true_eq] at hh
      obtain ⟨h1, h2, h3⟩ := hh
      refine ⟨Nat.le_refl _, h2, ?_⟩
      rw [drop_lt text h2, dotq]
      have hc : (ln text s && Nat.beq (text.getD s 0) 46) = true := by rw [h1, beqN]; exact h3
      have h46 : text.getD s 0 = 46 := beq_iff_eq.mp h3
      rw [if_pos hc, Nat.sub_self, List.take_zero, List.nil_append, ln_succ, h46]; rfl
    · rename_i hh
      obtain ⟨h1, h2, h3⟩ := ih (s + 1) q e
      have hs : s < text.size := by lia
      refine ⟨by lia, h2, ?_⟩
      rw [drop_lt text hs, dotq]
      have hc : (ln text s && Nat.beq (text.getD s 0) 46) = false := by
        unfold hit1 at hh
        rw [decide_eq_true hs, Bool.true_and] at hh
        rw [beqN]; exact Bool.eq_false_iff.mpr hh
      rw [hc, ← ln_succ, h3]
      have : q - s = (q - (s + 1)) + 1 := by lia
      rw [this, List.take_succ_cons]; simp
theorem crlf_cons {c : Nat} (t : List Nat) (h1 : c ≠ 10) (h2 : c ≠ 13) : crlf r (c :: t) = c :: crlf r t := by
  rw [crlf.eq_def]
  split <;> simp_all
theorem nl_none : ∀ (k s : Nat), text.size + 1 - s ≤ k → find2 text k s = none → crlf r (text.toList.drop s) = text.toList.drop s := by
  intro k
  induction k with
  | zero =>
    intro s h _
    rw [List.drop_eq_nil_of_le (by simp; lia)]; simp [crlf]
  | succ k ih =>
    intro s h e
    rw [find2] at e
    split at e
    · cases e
    · rename_i hh
      by_cases hs : s < text.size
      · unfold hit2 at hh
        rw [decide_eq_true hs, Bool.true_and, Bool.or_eq_true, not_or, beq_iff_eq, beq_iff_eq] at hh
        rw [drop_lt text hs, crlf_cons r _ hh.1 hh.2, ih (s + 1) (by lia) e]
      · rw [List.drop_eq_nil_of_le (by simp; lia)]; simp [crlf]
theorem nl_some : ∀ (k s q : Nat), find2 text k s = some q → s ≤ q ∧ q < text.size ∧ crlf r (text.toList.drop s) = (text.toList.drop s).take (q - s) ++ r ++ crlf r (text.toList.drop (wide2 text q)) := by
  intro k
  induction k with
  | zero => intro s q e; cases e
  | succ k ih =>
    intro s q e
    rw [find2] at e
    split at e
    · rename_i hh
      cases e
      unfold hit2 at hh
      simp only [Bool.and_eq_true, Bool.or_eq_true, decide_eq_true_eq, beq_iff_eq] at hh
      obtain ⟨h2, h3⟩ := hh
      refine ⟨Nat.le_refl _, h2, ?_⟩
      rw [Nat.sub_self, List.take_zero, List.nil_append]
      rcases h3 with h3 | h3
      · have hw : wide2 text s = s + 1 := by unfold wide2; rw [h3]; rfl
        rw [hw, drop_lt text h2, h3]; simp [crlf]
      · by_cases hl : lit text (s + 1) 10 = true
        · have hw : wide2 text s = s + 2 := by unfold wide2; rw [h3, hl]; rfl
          unfold lit at hl
          simp only [Bool.and_eq_true, decide_eq_true_eq, beq_iff_eq] at hl
          rw [hw, drop_lt text h2, drop_lt text hl.1, h3, hl.2]; simp [crlf]
        · have hw : wide2 text s = s + 1 := by unfold wide2; rw [h3, Bool.eq_false_iff.mpr hl]; rfl
          rw [hw, drop_lt text h2, h3]
          by_cases h4 : s + 1 < text.size
          · have h5 : text.getD (s + 1) 0 ≠ 10 := fun z => hl (by unfold lit; rw [decide_eq_true h4, z]; rfl)
            rw [drop_lt text h4]
            generalize text.getD (s + 1) 0 = c at h5
            rw [crlf.eq_def]
            split <;> simp_all
          · rw [List.drop_eq_nil_of_le (i := s + 1) (by simp; lia)]; simp [crlf]
    · rename_i hh
      refine nng fun nG => ?_
      obtain ⟨h1, h2, h3⟩ := ih (s + 1) q e
      refine nG ?_
      clear nG
      have hs : s < text.size := by lia
      refine ⟨by lia, h2, ?_⟩
      unfold hit2 at hh
      rw [decide_eq_true hs, Bool.true_and, Bool.or_eq_true, not_or, beq_iff_eq, beq_iff_eq] at hh
      rw [drop_lt text hs, crlf_cons r _ hh.1 hh.2, h3]
      have : q - s = (q - (s + 1)) + 1 := by lia
      rw [this, List.take_succ_cons]; simp
theorem wide2_le {q : Nat} (h : q < text.size) : q < wide2 text q ∧ wide2 text q ≤ text.size := by
  unfold wide2
  by_cases hh : (text.getD q 0 == 13 && lit text (q + 1) 10) = true
  · rw [if_pos hh]
    rw [Bool.and_eq_true] at hh
    have := hh.2
    unfold lit at this
    simp only [Bool.and_eq_true, decide_eq_true_eq] at this
    lia
  · rw [if_neg hh]; lia
end
end Mine.Internal
end
section
open PySem PySem.W PySem.Calls PyProof.Rows PySem.Builtin PySem.Builtin.Re PySem.Builtin.Str
set_option Elab.async false
set_option linter.unusedVariables false
set_option maxRecDepth 100000
namespace Mine.Internal

noncomputable def nxt1 (X : Str) (s : Nat) : Option (Nat × Nat) := (find1 X.cps (X.cps.size + 1 - s) s).map fun q => (q, q + 1)
noncomputable def nxt2 (X : Str) (s : Nat) : Option (Nat × Nat) := (find2 X.cps (X.cps.size + 1 - s) s).map fun q => (q, wide2 X.cps q)
theorem nxt1_ok (X : Str) (h : X.cps.size ≤ 4096) : Nxt code1 X (nxt1 X) := by
  refine ⟨fun s => ?_, fun s p e => ?_⟩
  · obtain ⟨k, hk, x⟩ := next1 X.cps s
    exact ⟨k, Nat.le_trans hk (by lia), x⟩
  · obtain ⟨q, e2, rfl⟩ := Option.map_eq_some_iff.mp e
    obtain ⟨h1, h2, _⟩ := dot_some X.cps [] _ _ _ e2
    exact ⟨h1, Nat.lt_succ_self _, h2⟩
theorem nxt2_ok (X : Str) (h : X.cps.size ≤ 4096) : Nxt code2 X (nxt2 X) := by
  refine ⟨fun s => ?_, fun s p e => ?_⟩
  · obtain ⟨k, hk, x⟩ := next2 X.cps s
    exact ⟨k, Nat.le_trans hk (by lia), x⟩
  · obtain ⟨q, e2, rfl⟩ := Option.map_eq_some_iff.mp e
    obtain ⟨h1, h2, _⟩ := nl_some X.cps [] _ _ _ e2
    exact ⟨h1, wide2_le X.cps h2⟩

theorem flat_app (a b : List Str) : flat (a ++ b) = flat a ++ flat b := by simp [flat]
theorem flat_piece (X : Str) (d q : Nat) (h : q ≤ X.cps.size) : flat (if d < q then [piece X d q] else []) = (X.cps.toList.drop d).take (q - d) := by
  by_cases hd : d < q
  · rw [if_pos hd]
    simp only [flat, piece, List.flatMap_cons, List.flatMap_nil, List.append_nil]
    rw [Array.toList_extract]
    try simp [List.extract]
  · rw [if_neg hd, show q - d = 0 by lia]; rfl
theorem rest1 (X r : Str) : ∀ (n d : Nat), X.cps.size + 1 - d ≤ n → d ≤ X.cps.size → flat (subRest X r (nxt1 X) n d) = dotq r.cps.toList (ln X.cps d) (X.cps.toList.drop d) := by
  intro n
  induction n with
  | zero => intro d h h2; lia
  | succ n ih =>
    intro d h hd
    rw [subRest]
    unfold nxt1
    cases e : find1 X.cps (X.cps.size + 1 - d) d with
    | none =>
      rw [dot_none X.cps _ _ d (Nat.le_refl _) e]
      show flat (if d < X.cps.size then [piece X d X.cps.size] else []) = _
      rw [flat_piece X d _ (Nat.le_refl _), List.take_of_length_le (by simp)]
    | some q =>
      refine nng fun nG => ?_
      obtain ⟨h1, h2, h3⟩ := dot_some X.cps r.cps.toList _ _ _ e
      refine nG ?_
      clear nG
      rw [h3]
      show flat ((if d < q then [piece X d q] else []) ++ r :: subRest X r (nxt1 X) n (q + 1)) = _
      rw [flat_app, flat_piece X d q (by lia), show flat (r :: subRest X r (nxt1 X) n (q + 1)) = r.cps.toList ++ flat (subRest X r (nxt1 X) n (q + 1)) by simp [flat], ih (q + 1) (by lia) (by lia)]
      simp
theorem rest2 (X r : Str) : ∀ (n d : Nat), X.cps.size + 1 - d ≤ n → d ≤ X.cps.size → flat (subRest X r (nxt2 X) n d) = crlf r.cps.toList (X.cps.toList.drop d) := by
  intro n
  induction n with
  | zero => intro d h h2; lia
  | succ n ih =>
    intro d h hd
    rw [subRest]
    unfold nxt2
    cases e : find2 X.cps (X.cps.size + 1 - d) d with
    | none =>
      rw [nl_none X.cps _ _ d (Nat.le_refl _) e]
      show flat (if d < X.cps.size then [piece X d X.cps.size] else []) = _
      rw [flat_piece X d _ (Nat.le_refl _), List.take_of_length_le (by simp)]
    | some q =>
      obtain ⟨h1, h2, h3⟩ := nl_some X.cps r.cps.toList _ _ _ e
      obtain ⟨w1, w2⟩ := wide2_le X.cps h2
      rw [h3]
      show flat ((if d < q then [piece X d q] else []) ++ r :: subRest X r (nxt2 X) n (wide2 X.cps q)) = _
      rw [flat_app, flat_piece X d q (by lia), show flat (r :: subRest X r (nxt2 X) n (wide2 X.cps q)) = r.cps.toList ++ flat (subRest X r (nxt2 X) n (wide2 X.cps q)) by simp [flat], ih (wide2 X.cps q) (by lia) (by lia)]
      simp
theorem dotq_len (r : List Nat) : ∀ (l : List Nat) (b : Bool), (dotq r b l).length ≤ l.length * (r.length + 1)
  | [], b => by simp [dotq]
  | c :: t, b => by
    rw [dotq]
    split
    · have := dotq_len r t false
      rw [List.length_append, List.length_cons, Nat.succ_mul]; lia
    · have := dotq_len r t (Nat.beq c 10)
      rw [List.length_cons, List.length_cons, Nat.succ_mul]; lia
theorem crlf_len (r : List Nat) : ∀ (n : Nat) (l : List Nat), l.length ≤ n → (crlf r l).length ≤ l.length * (r.length + 1)
  | 0, [], _ => by simp [crlf]
  | n + 1, l, h => by
    rw [crlf.eq_def]
    split
    · simp
    · rename_i t
      have := crlf_len r n t (by simp at h; lia)
      simp only [List.length_append, List.length_cons, Nat.succ_mul]; lia
    · rename_i t
      have := crlf_len r n t (by simp at h; lia)
      simp only [List.length_append, List.length_cons, Nat.succ_mul]; lia
    · rename_i t _
      have := crlf_len r n t (by simp at h; lia)
      simp only [List.length_append, List.length_cons, Nat.succ_mul]; lia
    · rename_i c t _ _ _
      have := crlf_len r n t (by simp at h; lia)
      simp only [List.length_cons, Nat.succ_mul]; lia
theorem fold_len : ∀ (l : List Str) (n : Nat), l.foldl (fun a x => a + x.length + (⟨#[]⟩ : Str).length) n = n + (flat l).length
  | [], n => by simp [flat]
  | x :: r, n => by
    rw [List.foldl_cons, fold_len r]
    have : (⟨#[]⟩ : Str).length = 0 := rfl
    rw [this]
    simp [flat, Str.length]; lia
theorem joinOk_of {l : List Str} (h : (flat l).length ≤ sizeLine) : JoinOk ⟨#[]⟩ l = true := by
  unfold JoinOk tooLong
  rw [List.foldl_toArray, fold_len]
  simpa using h

section
variable {prog : Program} {w : World} {A : Around} {E : Value → Shared → Prop} {s : Shared} {p : Addr} {code : Array Nat} {X r : Str} {t u : Tok} {nxt : Nat → Option (Nat × Nat)}
theorem special_str : typeLookup (.type "str") "__call__" = pure none := by rw [typeLookup_type, builtinLookup_eq_fast]; kernel_rfl

theorem sub_call (N : Nxt code X nxt) (hX : X.cps.size ≤ 4096) (hr : r.cps.contains 92 = false) (P : Pat s.heap p code) (hT : s.TypeIs (.ref p) "re.Pattern") (hj : JoinOk ⟨#[]⟩ (subRest X r nxt (X.cps.size + 1) 0) = true) {Q : Value → Shared → Prop}
    (hQ : ∀ h' tk t', (∀ b o, s.heap.get? b = some o → h'.get? b = some o) → Q (.str (Txt.join ⟨#[]⟩ (subRest X r nxt (X.cps.size + 1) 0)) t') { s with heap := h', toks := tk }) :
    wpAny (model prog w) A (call (.builtin "re.Pattern.sub") [.ref p, .str r u, .str X t]) Q E s := by
  refine wpAny_call (codeAny_call_builtin slot_sub.plain entry_sub (slot_sub.check _ _ _ _ _ _ _ _ hT (args_sub _ _ _) ?_))
  have e1 : specialOf (.str r u) "__call__" = pure none := by
    unfold specialOf
    show typeLookup (.type "str") "__call__" = _
    exact special_str
  have e2 : reNamed "re.Pattern.sub" "sub" ["repl", "string", "count"] 2 [.str r u, .str X t] [] = pure [some (.str r u), some (.str X t), none] := by kernel_rfl
  show wpAny _ _ (reNamed "re.Pattern.sub" "sub" ["repl", "string", "count"] 2 [.str r u, .str X t] [] >>= _) _ _ _
  rw [e2]
  refine wpAny_bind (wpAny_pure (wpAny_bind (wpAny_pure ?_)))
  rw [e1]
  refine wpAny_bind (wpAny_pure ?_)
  refine wpAny_bind (wpAny_bind (wpAny_pure (wpAny_pure ?_)))
  show wpAny _ _ (pure (!r.cps.contains 92) >>= _) _ _ _
  refine wpAny_bind (wpAny_pure ?_)
  rw [hr]
  show wpAny _ _ (pure (Value.str r u, 0) >>= _) _ _ _
  refine wpAny_bind (wpAny_pure ?_)
  show wpAny _ _ (holding [.str r u] (reWholeTarget (.ref p) (.str X t)) >>= _) _ _ _
  refine wpAny_bind (wpAny_holding (whole P ?_))
  show wpAny _ _ (newList [] >>= _) _ _ _
  refine wpAny_bind (wpAny_newObj_type ?_)
  refine wpAny_pure ⟨Code.quiet_builtin _ (by decide +kernel), ?_⟩
  have k0 : ∀ b o, s.heap.get? b = some o → (s.heap.push { cls := .type "list", dict := none, data := .seq ([] : List Value).toArray }).get? b = some o := fun b o e => Heap.get?_push_of_some _ e
  refine loop_ok (s := { s with heap := s.heap.push { cls := .type "list", dict := none, data := .seq ([] : List Value).toArray } }) N hX (X.cps.size + 1) 0 0 s.heap.objs.size [] (Nat.le_refl _) (Nat.zero_le _) (P.keeps k0) ⟨0, Heap.get?_push_size _ rfl⟩ (by simp; lia) (fun l' e => by rw [e]; exact hj) fun h' tk t' k => ?_
  exact hQ h' tk t' fun b o e => k b o (fun hb => by rw [hb] at e; exact absurd (Heap.lt_size e) (Nat.lt_irrefl _)) (k0 b o e)

theorem subP_ok {k : Nat} {d : D} {Q : Value → Shared → Prop} (hk : code = if k = 1 then code1 else code2) (P : Pat s.heap p code) (hT : s.TypeIs (.ref p) "re.Pattern") (h : subP k r X = some d)
    (hQ : ∀ v h' tk, (∀ b o, s.heap.get? b = some o → h'.get? b = some o) → (∀ P ρ, Lay P ρ v d) → Q v { s with heap := h', toks := tk }) :
    wpAny (model prog w) A (call (.builtin "re.Pattern.sub") [.ref p, .str r u, .str X t]) Q E s := by
  unfold subP at h
  split at h
  · rename_i hh
    refine nng fun nG => ?_
    obtain ⟨hX, hr, h92⟩ := hh
    have hX' : X.cps.size ≤ 4096 := hX
    have hr' : r.cps.toList.length ≤ 16 := by rw [Array.length_toList]; exact hr
    cases h
    refine nG ?_
    clear nG
    by_cases hk1 : k = 1
    · rw [if_pos hk1] at hk
      subst hk
      have hfl := rest1 X r (X.cps.size + 1) 0 (by lia) (Nat.zero_le _)
      rw [show ln X.cps 0 = true from rfl, List.drop_zero] at hfl
      have hlen := dotq_len r.cps.toList X.cps.toList true
      have hb : (flat (subRest X r (nxt1 X) (X.cps.size + 1) 0)).length ≤ sizeLine := by
        rw [hfl]
        exact Nat.le_trans hlen (Nat.le_trans (Nat.mul_le_mul (show X.cps.toList.length ≤ 4096 by simpa using hX') (show r.cps.toList.length + 1 ≤ 17 by lia)) (by decide))
      refine sub_call (nxt1_ok X hX') hX' h92 P hT (joinOk_of hb) fun h' tk t' k0 => hQ _ h' tk k0 fun P ρ => ?_
      rw [if_pos hk1]
      have : Txt.join ⟨#[]⟩ (subRest X r (nxt1 X) (X.cps.size + 1) 0) = ⟨(dotq r.cps.toList true X.cps.toList).toArray⟩ := by
        have := glued_flat (subRest X r (nxt1 X) (X.cps.size + 1) 0)
        rw [hfl] at this
        rw [← this]
      rw [this]; exact .str _ _
    · rw [if_neg hk1] at hk
      subst hk
      have hfl := rest2 X r (X.cps.size + 1) 0 (by lia) (Nat.zero_le _)
      rw [List.drop_zero] at hfl
      have hlen := crlf_len r.cps.toList _ X.cps.toList (Nat.le_refl _)
      have hb : (flat (subRest X r (nxt2 X) (X.cps.size + 1) 0)).length ≤ sizeLine := by
        rw [hfl]
        exact Nat.le_trans hlen (Nat.le_trans (Nat.mul_le_mul (show X.cps.toList.length ≤ 4096 by simpa using hX') (show r.cps.toList.length + 1 ≤ 17 by lia)) (by decide))
      refine sub_call (nxt2_ok X hX') hX' h92 P hT (joinOk_of hb) fun h' tk t' k0 => hQ _ h' tk k0 fun P ρ => ?_
      rw [if_neg hk1]
      have : Txt.join ⟨#[]⟩ (subRest X r (nxt2 X) (X.cps.size + 1) 0) = ⟨(crlf r.cps.toList X.cps.toList).toArray⟩ := by
        have := glued_flat (subRest X r (nxt2 X) (X.cps.size + 1) 0)
        rw [hfl] at this
        rw [← this]
      rw [this]; exact .str _ _
  · cases h
end
end Mine.Internal
end
section
open PySem PySem.W PySem.Calls PyProof.Rows PySem.Builtin
set_option Elab.async false
set_option linter.unusedVariables false
set_option maxRecDepth 100000
namespace Mine.Internal
open PySem.F

section
variable {c : Cx} {A : Around} {kd : Str → Option NameKind} {sc : List (Str × Nat)} {σ : Vars} {st st₁ st₂ st₃ : Store} {x y d : D} {n : Nat} {pos : Pos} {env : Env} {fm ρ : List Addr} {s : Shared} {fN fO fI : Addr}

theorem Wf.blt (O : Ok c) (W : Wf c fm ρ st s) : ∃ mb, s.heap.Ns builtinsNs mb ∧ ∀ x : Str, x ≠ "__name__" → mb x = bootBuiltins x := by
  obtain ⟨mb, h1, h2⟩ := O.blt
  exact ⟨mb, h1.keeps W.base, h2⟩
theorem Wf.lim (O : Ok c) (W : Wf c fm ρ st s) : s.heap.NoLimit := O.lim.keeps W.base

theorem count_E {i : Nat} {l : List D} (O : Ok c) (R : Rm (n + 1) A) (I : CountK c fN) (hl : st[i]? = some (.acc l)) : CallE c A (.ref fN) [.ref i] st (.int l.length) st := by
  intro fm ρ s vs W ls Q hQ
  obtain ⟨_, rfl, lv⟩ := lays1 ls
  cases lv with | ref ha =>
  obtain ⟨us, nn, dd, od, hx, hd, had, lu⟩ := W.store _ _ _ ha hl
  refine call_count O R I (W.K O) (W.lim O) (W.blt O) hx hd.1 fun h' t tk k => ?_
  have K := kp_mk (s := s) (tk := tk) k
  rw [lu.length]
  exact hQ _ _ ρ (W.keeps K) (kp_adv K ρ) (.int _ _)

theorem pop_E {i : Nat} {l : List D} {st' : Store} (O : Ok c) (R : Rm (n + 2) A) (I : PopK c fN fO) (hl : st[i]? = some (.acc l)) (hn : l.length ≤ lid)
    (h : match l.getLast? with | some e => d = e ∧ st' = st.set i (.acc l.dropLast) | none => d = .tup [.str ⟨#[]⟩, .str ⟨#[]⟩] ∧ st' = st) : CallE c A (.ref fO) [.ref i] st d st' := by
  intro fm ρ s vs W ls Q hQ
  obtain ⟨_, rfl, lv⟩ := lays1 ls
  cases lv with | ref ha =>
  obtain ⟨us, nn, dd, od, hx, hd, had, lu⟩ := W.store _ _ _ ha hl
  have hlen := lu.length
  refine call_pop O R I (W.K O) (W.lim O) (W.blt O) hx hd.1 had (by rw [hlen]; exact Nat.le_trans hn (by decide)) (fun h0 a h' t1 t2 tk k hn0 e => ?_) fun u v hu h' n' tk k e => ?_
  · subst h0
    have : l = [] := List.eq_nil_of_length_eq_zero hlen.symm
    subst this
    obtain ⟨rfl, rfl⟩ := h
    have K := kp_mk (s := s) (tk := tk) k
    exact hQ _ _ ρ (W.keeps K) (kp_adv K ρ) (.tup (n := 0) (W.out_new (s' := { s with heap := h', toks := tk }) hn0 e) (.cons (.str _ _) (.cons (.str _ _) .nil)))
  · subst hu
    refine nng fun nG => ?_
    obtain ⟨es, e2, rfl, l1, l2⟩ := lu.snoc
    rw [List.getLast?_concat] at h
    obtain ⟨rfl, rfl⟩ := h
    rw [List.dropLast_concat] at hQ
    rename_i a
    have hdn : dd ≠ a := fun q => hd.2 (List.mem_append_right _ (q ▸ List.mem_of_getElem? ha))
    have A1 : Adv ρ ρ s { s with heap := h', toks := tk } := ⟨fun b o hb e => k b o (fun q => hb (q ▸ List.mem_of_getElem? ha)) e, fun _ h n => absurd h n, fun _ _ e => e⟩
    obtain ⟨W1, _⟩ := W.upd (s' := { s with heap := h', toks := tk }) (mo := .acc es) ha ⟨_, _, rfl⟩ k ⟨_, e⟩ ⟨u, n', dd, od, e, (A1.go fm).out hd, had, A1.lays l1⟩
    refine nG ?_
    clear nG
    exact hQ _ _ ρ W1 A1 (A1.lay l2)

theorem e_meth {f : Addr} {o : Expr} {X : Str} {apos : Pos} {l : List Expr} {ds : List D} {i : Nat} {es : List D} (O : Ok c) (k : ClsK c.K c.C) (hf : findIn c.K (.ref c.C) X = some (some (.ref f))) (ht : typeIn c.K (.ref f) = some (.type "function")) (hfn : isFn c.K f = true)
    (hX : (("_initial_size" : Str) == X) = false) (ho : ncall o = true) (hl : l.all nsl = true) (hn : l.length < 30) (hp : apos.endLine = pos.line)
    (h : EvE c A kd sc o σ st (.ref i) st₁) (hacc : st₁[i]? = some (.acc es)) (he : EvL c A kd sc l σ st₁ ds st₂) (hc : CallE c A (.ref f) (.ref i :: ds) st₂ d st₃) : EvE c A kd sc (.Call (.Attribute o X apos) l [] pos) σ st d st₃ := by
  intro env fm ρ s F W V Q hQ
  refine meth_call ho hl hn hp (h env fm ρ s F W V _ fun ov s1 ρ1 W1 A1 lo => ?_)
  refine nng fun nG => ?_
  cases lo with | ref ha =>
  obtain ⟨us, nn, dd, od, hx, hd, ⟨hs, td, vd, kd', rfl⟩, lu⟩ := W1.store _ _ _ ha hacc
  obtain ⟨oo, fd, hoo, hfd⟩ := isFn_get' O hfn
  refine nG ?_
  clear nG
  refine method_any k (W1.K O) (acc_inst hx hd.1) hf ht (.inl rfl) (shadow_acc hX) ?_
  refine callWith_function (o := oo) (fd := fd) (call_args hl (he pos env fm ρ1 s1 (F.adv W A1) W1 (V.adv F W A1) _ fun vs s2 ρ2 W2 A2 ls => ⟨⟨hoo W2, hfd⟩, ?_⟩))
  exact hc fm ρ2 s2 _ W2 (.cons (A2.lay (.ref ha)) ls) Q fun v s3 ρ3 W3 A3 l3 => hQ v s3 ρ3 W3 (A1.trans (A2.trans A3)) l3

theorem check_meth {M : Model} {E : Value → Shared → Prop} {i owner nm : String} {self : Value} {rest : List Value} {kw : List (Str × Value)} {Q : Unit → Shared → Prop}
    (hk : builtinKind i = some .method) (hs : splitId i = some (owner, nm)) (hi : Looks M s.heap (isInstance self (.type owner)) true) (ha : argsOk i ⟨self :: rest, kw⟩) (q : Q () s) :
    wpAny M A (checkBuiltinCall i ⟨self :: rest, kw⟩) Q E s := by
  unfold checkBuiltinCall
  rw [hs, hk]
  dsimp only
  refine wpAny_bind (hi.here ?_)
  rw [if_neg (by decide)]
  cases hsig : Manifest.signature? i with
  | none => exact wpAny_pure q
  | some sig =>
    simp only [argsOk, hsig] at ha
    have h2 : Bind.checkArgs i sig ⟨self :: rest, kw⟩ = pure () := ha
    show wpAny M A (Bind.checkArgs i sig ⟨self :: rest, kw⟩) Q E s
    rw [h2]; exact wpAny_pure q

theorem e_append {o a : Expr} {apos : Pos} {i : Nat} {l : List D} (O : Ok c) (k : ClsK c.K c.C) (hf : findIn c.K (.ref c.C) "append" = some (some (.builtin "list.append"))) (ho : ncall o = true) (hn : nsl a = true) (hp : apos.endLine = pos.line)
    (h : EvE c A kd sc o σ st (.ref i) st₁) (he : EvE c A kd sc a σ st₁ y st₂) (hacc1 : ∃ es, st₁[i]? = some (.acc es)) (hacc : st₂[i]? = some (.acc l)) (hlen : l.length ≤ lid) : EvE c A kd sc (.Call (.Attribute o "append" apos) [a] [] pos) σ st .none (st₂.set i (.acc (l ++ [y]))) := by
  intro env fm ρ s F W V Q hQ
  obtain ⟨es, hacc1⟩ := hacc1
  refine meth_call ho (by simp [hn]) (by simp) hp (h env fm ρ s F W V _ fun ov s1 ρ1 W1 A1 lo => ?_)
  refine nng fun nG => ?_
  cases lo with | ref ha =>
  rename_i x
  obtain ⟨us, nn, dd, od, hx, hd, ⟨hs, td, vd, kd', rfl⟩, lu⟩ := W1.store _ _ _ ha hacc1
  refine nG ?_
  clear nG
  refine method_any k (W1.K O) (acc_inst hx hd.1) hf (t := .type "method_descriptor") (by show pureOf (fastBuiltinType "list.append") = _; kernel_rfl) (.inr rfl) (shadow_acc (by decide)) ?_
  refine callWith_builtin (plain_args (l := [a]) (by simp [hn])) (call_args (l := [a]) (by simp [hn]) (wpAny_items_cons (he env fm ρ1 s1 (F.adv W A1) W1 (V.adv F W A1) _ fun va s2 ρ2 W2 A2 la => wpAny_items_nil ?_) (nsl_star hn _ _)))
  have ha2 := A2.pre _ _ ha
  refine nng fun nG => ?_
  obtain ⟨us2, nn2, dd2, od2, hx2, hd2, had2, lu2⟩ := W2.store _ _ _ ha2 hacc
  refine nG ?_
  clear nG
  refine wpAny_call (codeAny_call_builtin PySem.F.slot_list_append.plain PySem.F.entry_list_append (check_meth (owner := "list") (nm := "append") (by decide +kernel) (by decide +kernel) (isList_inst k (W2.K O) (acc_inst hx2 hd2.1)) (PySem.F.args_list_append_2 _ _) ?_))
  show wpAny _ _ (updateSeq x (·.push va) >>= _) _ _ _
  refine wpAny_bind (wpAny_updateSeq hx2 rfl ?_ (by rw [List.size_toArray, lu2.length]; exact lid_size hlen) (by rw [Array.size_push, List.size_toArray, lu2.length]; exact Nat.succ_le_succ (lid_size hlen)))
  refine wpAny_pure ?_
  refine nng fun nG => ?_
  obtain ⟨n', e8⟩ := map_acc c.C dd2 us2 nn2 (·.push va)
  have e9 : (accObj c.C dd2 us2 nn2).mapSeq (·.push va) = accObj c.C dd2 (us2 ++ [va]) n' := by rw [e8]; simp [accObj]
  have hx3 : (s2.heap.update x (Obj.mapSeq (·.push va))).get? x = some (accObj c.C dd2 (us2 ++ [va]) n') := by
    rw [Heap.get?_update_self _ hx2 (by rw [e9]; rfl), e9]
  have k3 : ∀ b o, b ≠ x → s2.heap.get? b = some o → (s2.heap.update x (Obj.mapSeq (·.push va))).get? b = some o := fun b o hb e => (Heap.get?_update_ne _ _ _ _ hb).trans e
  have A3 : Adv ρ2 ρ2 s2 { s2 with heap := s2.heap.update x (Obj.mapSeq (·.push va)) } := ⟨fun b o hb e => k3 b o (fun q => hb (q ▸ List.mem_of_getElem? ha2)) e, fun _ h n => absurd h n, fun _ _ e => e⟩
  obtain ⟨W3, _⟩ := W2.upd (s' := { s2 with heap := s2.heap.update x (Obj.mapSeq (·.push va)) }) (mo := .acc (l ++ [y])) ha2 ⟨_, s2.toks, rfl⟩ k3 ⟨_, hx3⟩ ⟨_, n', dd2, od2, hx3, (A3.go fm).out hd2, had2, (A3.lays lu2).append (.one (A3.lay la))⟩
  refine nG ?_
  clear nG
  exact hQ _ _ ρ2 W3 (A1.trans (A2.trans A3)) .none

theorem e_acc0 {X : Str} {p : Pos} (O : Ok c) (R : Rm (n + 2) A) (I : InitK c fI) (hk : kd X = some .globalImplicit) (h : globIn c.K X = some (.ref c.C)) (hx : okName X = true) : EvE c A kd sc (.Call (.Name X p) [] [] pos) σ st (.ref st.length) (st ++ [.acc []]) := by
  intro env fm ρ s F W V Q hQ
  refine Call_ (glob_name O F W hk h hx ?_)
  refine callWith_of (P := fun h => c.K.In h) rfl (fun h X => ⟨.machine, .inr (.inl rfl), ?_⟩) (PyProof.Rows.evalArgs_none ⟨W.K O, ?_⟩)
  · obtain ⟨oc, od, cd, sl, e, _⟩ := I.cls.cls
    refine (Looks.ld (part := none) (X _ _ e)).andThen ?_
    exact (looks_specialIn X I.cls.call).andThen .now
  · refine acc_make O R I (W.K O) (W.lim O) (W.blt O) fun x dx od nn h' tk hxn hdn hne k hx hd had => ?_
    have hfx := fresh_fm W hxn
    have hfd := fresh_fm W hdn
    have A1 : Adv ρ (ρ ++ [x]) s { s with heap := h', toks := tk } := ⟨fun b o _ e => k b o e, fun q hq hn => by
      rcases List.mem_append.mp hq with hq | hq
      · exact absurd hq hn
      · rw [List.mem_singleton.mp hq]; exact hxn, fun i b q => by rw [List.getElem?_append_left (List.getElem?_eq_some_iff.mp q).1]; exact q⟩
    have W1 : Wf c fm (ρ ++ [x]) (st ++ [.acc []]) { s with heap := h', toks := tk } := by
      have K := kp_mk (s := s) (tk := tk) k
      have W0 := W.keeps K
      refine ⟨W0.same, W0.base, fun b hb => ?_, fun b hb => ?_, by simp [W.len], fun i b mo e1 e2 => ?_, ?_, fun b hb => ?_⟩
      · rcases hb with hb | hb
        · exact W0.alive b (.inl hb)
        · rcases List.mem_append.mp hb with hb | hb
          · exact W0.alive b (.inr hb)
          · rw [List.mem_singleton.mp hb]; exact ⟨_, hx⟩
      · rcases hb with hb | hb
        · exact W.new b (.inl hb)
        · rcases List.mem_append.mp hb with hb | hb
          · exact W.new b (.inr hb)
          · rw [List.mem_singleton.mp hb]
            cases e : c.s₀.heap.get? x with
            | none => rfl
            | some o => rw [W.base _ _ e] at hxn; cases hxn
      · by_cases hi : i < ρ.length
        · rw [List.getElem?_append_left hi] at e1
          rw [List.getElem?_append_left (by rw [← W.len]; exact hi)] at e2
          exact (W.store i b mo e1 e2).mono (fun _ _ q => A1.out q) A1.pre fun o q => k b o q
        · have hi' : i = ρ.length := by
            have := (List.getElem?_eq_some_iff.mp e1).1
            rw [List.length_append, List.length_singleton] at this; lia
          subst hi'
          rw [List.getElem?_append_right (Nat.le_refl _)] at e1
          rw [W.len, List.getElem?_append_right (Nat.le_refl _)] at e2
          simp at e1 e2
          subst e1; subst e2
          refine ⟨[], nn, dx, od, hx, ⟨hd, fun hm => ?_⟩, had, .nil⟩
          rcases List.mem_append.mp hm with q | q
          · exact hfd.1 q
          · rcases List.mem_append.mp q with q | q
            · exact hfd.2 q
            · exact hne (List.mem_singleton.mp q).symm
      · rw [List.nodup_append]
        refine ⟨W.nodup, by simp, fun b hb q hq => ?_⟩
        rw [List.mem_singleton.mp hq]
        exact fun r => hfx.2 (r ▸ hb)
      · rcases List.mem_append.mp hb with hb | hb
        · exact W.apart b hb
        · rw [List.mem_singleton.mp hb]; exact hfx.1
    refine hQ _ _ (ρ ++ [x]) W1 A1 (.ref (i := st.length) ?_)
    rw [← W.len, List.getElem?_append_right (Nat.le_refl _)]; simp

theorem e_sub {X : Str} {p : Pos} {apos : Pos} {pa : Addr} {k : Nat} {a b : Expr} {r t : Str} (O : Ok c) (hk : kd X = some .globalImplicit) (hg : globIn c.K X = some (.ref pa)) (hx : okName X = true) (hna : nsl a = true) (hnb : nsl b = true) (hp : apos.endLine = pos.line)
    (P : ∀ h, c.K.In h → Pat h pa (if k = 1 then code1 else code2)) (ha : EvE c A kd sc a σ st (.str r) st₁) (hb : EvE c A kd sc b σ st₁ (.str t) st₂) (hd : subP k r t = some d) : EvE c A kd sc (.Call (.Attribute (.Name X p) "sub" apos) [a, b] [] pos) σ st d st₂ := by
  intro env fm ρ s F W V Q hQ
  refine meth_call rfl (by simp [hna, hnb]) (by simp) hp (glob_name O F W hk hg hx ?_)
  refine (P _ (W.K O)).ex _ fun o fs T oT its n g1 g2 g3 _ _ _ _ _ _ _ _ => ?_
  refine getMethod_builtin (T := "re.Pattern") ⟨o, g1, g2⟩ plain_re slot_sub type_sub (fun q e => by cases e; exact ⟨o, g1, g3⟩) ?_
  refine callWith_builtin (plain_args (l := [a, b]) (by simp [hna, hnb])) (call_args (l := [a, b]) (by simp [hna, hnb]) (wpAny_items_cons (ha env fm ρ s F W V _ fun va s1 ρ1 W1 A1 la => wpAny_items_cons (hb env fm ρ1 s1 (F.adv W A1) W1 (V.adv F W A1) _ fun vb s2 ρ2 W2 A2 lb => wpAny_items_nil ?_) (nsl_star hnb _ _)) (nsl_star hna _ _)))
  cases la; cases lb
  have P2 := P _ (W2.K O)
  refine P2.ex _ fun o2 fs2 T2 oT2 its2 n2 g1' g2' _ _ _ _ _ _ _ _ _ => ?_
  refine subP_ok rfl P2 ⟨o2, g1', g2'⟩ hd fun v h' tk k' l' => ?_
  have K := kp_mk (s := s2) (tk := tk) k'
  exact hQ v _ ρ2 (W2.keeps K) (A1.trans (A2.trans (kp_adv K ρ2))) (l' _ _)
end
end Mine.Internal
end
section
open PySem PySem.W PySem.Calls PyProof.Rows PySem.Builtin
set_option Elab.async false
set_option linter.unusedVariables false
set_option maxRecDepth 100000
namespace Mine.Internal
open PySem.F

section
variable {prog : Program} {w : World} {A : Around} {E : Value → Shared → Prop} {s : Shared} {C x sl : Addr} {K : Frag} {ox : Obj} {od : Option Obj}

theorem inst_key {M : Model} {v : Value} {name : Str} {Q : Value → Shared → Prop} (k : ClsK K C) (X : K.In s.heap) (I : InstAt s.heap x ox C od) (h : Q v s) : wpAny M A (sequenceKey (.ref x) v name) Q E s := by
  unfold sequenceKey
  refine wpAny_bind (I.type.here ?_)
  show wpAny _ _ ((["collections.deque"] : List String).anyM (fun n => isSubtype (.ref C) (.type n)) >>= _) _ _ _
  refine wpAny_bind ?_
  rw [List.anyM]
  refine wpAny_bind ((k.sub X (.type "collections.deque") false (by simp)).here ?_)
  exact wpAny_pure (wpAny_pure h)

theorem parts_of {vl vu vs : Value} {lo hi st : Option Int} {Q : Value × Value × Value → Shared → Prop} {M : Model} (hs : s.heap.IsSliceOf sl vl vu vs) (pl : IsPart vl lo) (pu : IsPart vu hi) (ps : IsPart vs st) (h0 : st ≠ some 0)
    (h : Q (rawPart lo, rawPart hi, rawPart st) s) : wpAny M A (Builtin.List.listSliceParts (.ref sl)) Q E s := by
  obtain ⟨os, hos, hcs, hds⟩ := id hs
  rw [listSliceParts_eq]
  have hstep : ¬ ((rawPart st == rawInt 0) = true) := by
    cases st with
    | none => exact Bool.false_ne_true
    | some c =>
      intro hh
      have : c = 0 := by simpa [rawPart, rawInt] using hh
      exact h0 (by rw [this])
  refine wpAny_bind (wpAny_field hos hds (x := vs) rfl (wpAny_bind (wpAny_listPart ps ?_)))
  rw [if_neg hstep]
  refine wpAny_bind (wpAny_field hos hds (x := vl) rfl (wpAny_bind (wpAny_listPart pl ?_)))
  exact wpAny_bind (wpAny_field hos hds (x := vu) rfl (wpAny_bind (wpAny_listPart pu (wpAny_pure h))))
theorem slice_sub {vl vu vs : Value} {Q : Option Int → Shared → Prop} {M : Model} (hs : s.heap.IsSliceOf sl vl vu vs) (h : Q none s) : wpAny M A (Builtin.List.listSubscript? (.ref sl)) Q E s := by
  refine nng fun nG => ?_
  obtain ⟨os, hos, hcs, _⟩ := hs
  refine nG ?_
  clear nG
  unfold Builtin.List.listSubscript?
  refine wpAny_bind (wpAny_specialOf (T := "slice") ⟨os, hos, hcs⟩ slice_no_index ?_)
  exact wpAny_pure h
theorem list_items {o : Obj} {its : Array Value} {n : Nat} {a : Addr} {Q : Array Value → Shared → Prop} {M : Model} (ho : s.heap.get? a = some o) (hd : o.data = .seq its n) (h : Q its s) : wpAny M A (Builtin.List.listItems (.ref a)) Q E s := by
  unfold Builtin.List.listItems
  exact wpAny_bind (wpAny_seqItems ho hd (wpAny_pure h))

theorem chk_list {M : Model} {Q : Unit → Shared → Prop} {i n : String} {rest : List Value} (hk : builtinKind i = some .method) (hs : splitId i = some ("list", n)) (h : Looks M s.heap (isInstance (.ref x) (.type "list")) true) (h3 : argsOk i ⟨.ref x :: rest, []⟩) (q : Q () s) : wpAny M A (checkBuiltinCall i ⟨.ref x :: rest, []⟩) Q E s := check_meth hk hs h h3 q
theorem chk_lists {M : Model} {Q : Unit → Shared → Prop} {i n : String} {rest : List Value} (hk : builtinKind i = some .slot) (hs : splitId i = some ("list", n)) (h : Looks M s.heap (isInstance (.ref x) (.type "list")) true) (h3 : argsOk i ⟨.ref x :: rest, []⟩) (q : Q () s) : wpAny M A (checkBuiltinCall i ⟨.ref x :: rest, []⟩) Q E s := check_slot hk hs h h3 q
theorem gk : builtinKind "list.__getitem__" = some .method := by decide +kernel
theorem gs : splitId "list.__getitem__" = some ("list", "__getitem__") := by decide +kernel
theorem sk : builtinKind "list.__setitem__" = some .slot := by decide +kernel
theorem ss : splitId "list.__setitem__" = some ("list", "__setitem__") := by decide +kernel

theorem inst_call {id n : String} {b : Builtin} {args : List Value} {Q : Value → Shared → Prop} (hp : plainId id = true) (he : entryFor table id = some b)
    (hc : ∀ (Q : Unit → Shared → Prop) (E : Value → Shared → Prop), Q () s → wpAny (model prog w) A.in1 (checkBuiltinCall id ⟨.ref x :: args, []⟩) Q E s)
    (h : wpAny (model prog w) A.in1 (b ⟨.ref x :: args, []⟩) (fun fin s' => ∃ v, fin = .done (.ret v) ∧ Q v s') E s) : wpAny (model prog w) A (call (.builtin id) (.ref x :: args)) Q E s := by
  refine wpAny_call (codeAny_call_builtin hp he (hc _ _ (wpAny_mono h (fun fin s' q => ?_) fun _ _ e => e)))
  obtain ⟨v, rfl, q⟩ := q
  exact q
theorem inst_getSlice {its : Array Value} {n : Nat} {vl vu : Value} {lo hi : Option Int} {Q : Value → Shared → Prop} (k : ClsK K C) (X : K.In s.heap) (I : InstAt s.heap x ox C od) (hg : findIn K (.ref C) "__getitem__" = some (some (.builtin "list.__getitem__")))
    (hd : ox.data = .seq its n) (hs : s.heap.IsSliceOf sl vl vu .none) (pl : IsPart vl lo) (pu : IsPart vu hi) (hsz : its.size ≤ sizeLine)
    (h : Q (.ref s.heap.objs.size) { s with heap := s.heap.push { cls := .type "list", data := .seq (slicePick its lo hi none) } }) : wpAny (model prog w) A (getItem (.ref x) (.ref sl)) Q E s := by
  unfold getItem
  refine wpAny_holding (wpAny_bind (inst_key k X I ?_))
  refine wpAny_bind (kfo_special X I hg (fun self => PySem.slot_list_getitem.bind self) (wpAny_mono (Q := Q) (E := E) ?_ (fun v s' q => wpAny_pure q) fun _ _ e => e))
  refine inst_call (n := "__getitem__") PySem.slot_list_getitem.plain PySem.entry_list_getitem (fun Q' E' q => @chk_list A.in1 E' s x _ Q' "list.__getitem__" "__getitem__" [.ref sl] gk gs (isList_inst k X I) (args_list_getitem _ _) q) ?_
  show wpAny _ _ (Builtin.List.listSubscript? (.ref sl) >>= _) _ _ s
  refine wpAny_bind (slice_sub hs ?_)
  refine nng fun nG => ?_
  obtain ⟨os, hos, hcs, hds⟩ := id hs
  refine nG ?_
  clear nG
  show wpAny _ _ (typeOf (.ref sl) >>= _) _ _ s
  refine wpAny_bind (wpAny_typeOf (T := "slice") ⟨os, hos, hcs⟩ ?_)
  rw [if_neg (by decide)]
  refine wpAny_bind (parts_of hs pl pu .none (by simp) (wpAny_bind (list_items I.at_ hd ?_)))
  refine wpAny_bind (wpAny_of_eq (sliceIndices_raw lo hi none its.size (by simp)) ?_)
  exact wpAny_bind (wpAny_newObj_type (wpAny_pure ⟨_, rfl, h⟩) (Nat.le_trans (slicePick_size_le its lo hi none) hsz))
theorem all_items {a : Addr} {o : Obj} {its : Array Value} {n : Nat} {msg : String} {Q : Array Value → Shared → Prop} {M : Model} (ho : s.heap.get? a = some o) (hc : o.cls = .type "list") (hd : o.data = .seq its n) (h : Q its s) : wpAny M A (Builtin.List.listAllItems (.ref a) msg) Q E s := by
  unfold Builtin.List.listAllItems
  refine wpAny_bind (wpAny_typeOf (T := "list") ⟨o, ho, hc⟩ ?_)
  rw [if_pos (by decide)]
  exact list_items ho hd h
theorem inst_cutFrom {its : Array Value} {n : Nat} {vl : Value} {j : Nat} {e : Addr} {oe : Obj} {ne : Nat} {Q : Unit → Shared → Prop} (k : ClsK K C) (X : K.In s.heap) (I : InstAt s.heap x ox C od) (hg : findIn K (.ref C) "__setitem__" = some (some (.builtin "list.__setitem__")))
    (hd : ox.data = .seq its n) (hs : s.heap.IsSliceOf sl vl .none .none) (pl : IsPart vl (some (j : Int))) (hj : j ≤ its.size) (hsz : its.size ≤ 1048576) (he : s.heap.get? e = some oe) (hec : oe.cls = .type "list") (hed : oe.data = .seq #[] ne)
    (h : ∀ h' f, (∀ b o, b ≠ x → s.heap.get? b = some o → h'.get? b = some o) → h'.get? x = some (ox.mapSeq f) → f its = (its.toList.take j).toArray → Q () { s with heap := h' }) : wpAny (model prog w) A (setItem (.ref x) (.ref sl) (.ref e)) Q E s := by
  unfold setItem
  refine wpAny_holding (wpAny_bind (inst_key k X I ?_))
  refine wpAny_bind (kfo_special X I hg (fun self => PySem.slot_list_setitem.bind self) (wpAny_mono (Q := fun _ => Q ()) (E := E) ?_ (fun v s' q => wpAny_pure q) fun _ _ e => e))
  refine inst_call (n := "__setitem__") PySem.slot_list_setitem.plain PySem.entry_list_setitem (fun Q' E' q => @chk_lists A.in1 E' s x _ Q' "list.__setitem__" "__setitem__" [.ref sl, .ref e] sk ss (isList_inst k X I) (args_list_setitem _ _ _) q) ?_
  show wpAny _ _ (Builtin.List.listSubscript? (.ref sl) >>= _) _ _ s
  refine wpAny_bind (slice_sub hs ?_)
  obtain ⟨os, hos, hcs, hds⟩ := id hs
  show wpAny _ _ (typeOf (.ref sl) >>= _) _ _ s
  refine wpAny_bind (wpAny_typeOf (T := "slice") ⟨os, hos, hcs⟩ ?_)
  rw [if_neg (by decide)]
  refine wpAny_bind (parts_of hs pl .none .none (by simp) ?_)
  have hne : Builtin.List.listSameRef (.ref x) (.ref e) = false := by
    show (x == e) = false
    refine beq_eq_false_iff_ne.mpr fun q => ?_
    subst q
    rw [I.at_] at he; cases he
    rw [I.cls] at hec; cases hec
  dsimp only
  rw [if_neg (by rw [hne]; exact Bool.false_ne_true)]
  refine wpAny_bind (all_items he hec hed (wpAny_bind (list_items I.at_ hd ?_)))
  refine wpAny_bind (wpAny_of_eq (sliceIndices_raw (some (j : Int)) none none its.size (by simp)) ?_)
  have e1 : sliceBounds (some (j : Int)) none none its.size = ((j : Int), (its.size : Int), 1) := by
    simp only [sliceBounds, Option.getD_none]
    have h1 : ¬ ((j : Int) < 0) := by lia
    simp only [h1, if_false, show (1 : Int) > 0 by decide, if_true]
    congr 1
    lia
  rw [e1]
  dsimp only
  rw [if_pos (by decide)]
  have z : (max (j : Int) (its.size : Int)).toNat = its.size := by lia
  have ef : its.extract 0 (j : Int).toNat ++ #[] ++ its.extract (max (j : Int) (its.size : Int)).toNat = (its.toList.take j).toArray := by
    rw [z, Int.toNat_natCast]
    apply Array.ext'
    simp
  have lj : (its.toList.take j).length ≤ 1048576 := Nat.le_trans (by simp; exact Nat.min_le_right _ _) hsz
  refine wpAny_bind (wpAny_rule ?_)
  rw [if_neg (by rw [Builtin.List.listTooLong, decide_eq_true_eq]; exact Nat.not_lt.mpr (Nat.le_trans hsz (by decide)))]
  refine wpAny_bind (wpAny_updateSeq I.at_ hd ?_ (Nat.le_trans hsz (by decide)) ?_)
  · refine wpAny_bind (wpAny_letGo (wpAny_pure ⟨_, rfl, ?_⟩))
    refine h _ _ (fun b o hb e => (Heap.get?_update_ne _ _ _ _ hb).trans e) (Heap.get?_update_self _ I.at_ ?_) ef
    obtain ⟨n', e⟩ := Obj.data_mapSeq hd (fun xs => xs.extract 0 (j : Int).toNat ++ #[] ++ xs.extract (max (j : Int) (its.size : Int)).toNat)
    exact Obj.isFreed_of_seq e
  · rw [show (its.extract 0 (j : Int).toNat ++ #[] ++ its.extract (max (j : Int) (its.size : Int)).toNat) = _ from ef, List.size_toArray]
    exact Nat.le_trans lj (by decide)
end
end Mine.Internal
end
section
open PySem PySem.W PySem.Calls PyProof.Rows PySem.Builtin
set_option Elab.async false
set_option linter.unusedVariables false
set_option maxRecDepth 100000
namespace Mine.Internal
open PySem.F

structure PopFK (c : Cx) (fP : Addr) (v0 : Value) : Prop where
  cls : ClsK c.K c.C
  find : findIn c.K (.ref c.C) "pop_from" = some (some (.ref fP))
  typ : typeIn c.K (.ref fP) = some (.type "function")
  geti : findIn c.K (.ref c.C) "__getitem__" = some (some (.builtin "list.__getitem__"))
  seti : findIn c.K (.ref c.C) "__setitem__" = some (some (.builtin "list.__setitem__"))
  zero : ∃ t, v0 = .int 0 t
  fn : ∀ P : Prop, (∀ fd p1 p2 p3 p4 p5 p6 p7 p8 p9 p10 p11 p12 p13 p14 o, c.K.lookup fP = some o → o.data = .func fd → codeIn c.K fd.code fd.qualname = true →
    fd.body = .stmts [.Assign [.Name "popped" p1] (.Subscript (.Name "self" p2) (.Slice (some (.Name "i" p3)) none none p4) p5) p6,
      .Assign [.Subscript (.Name "self" p7) (.Slice (some (.Name "i" p8)) none none p9) p10] (.List [] p11) p12, .Return (some (.Name "popped" p13)) p14] →
    fd.scope.isCoroutine = false → fd.scope.isGenerator = false → fd.scope.kind = .function → (∀ x ∈ fd.scope.names, x.2 ≠ .cell) →
    fd.scope.names.lookup ("self" : Str) = some .local → fd.scope.names.lookup ("i" : Str) = some .local → fd.scope.names.lookup ("popped" : Str) = some .local →
    (∀ s a, c.K.In s.heap → BindsTo s fd ⟨[a], []⟩ [("self", a), ("i", v0)]) → (∀ s a b, c.K.In s.heap → BindsTo s fd ⟨[a, b], []⟩ [("self", a), ("i", b)]) → P) → P

section
variable {c : Cx} {A : Around} {x dd fP : Addr} {v0 : Value} {s : Shared} {n : Nat} {vs : List Value} {nn : Nat} {od : Obj}

theorem heap_in {h : Heap} {a : Addr} {o : Obj} (e : h.get? a = some o) : a < h.objs.size := Heap.lt_size e

theorem local_val {M : Model} {E : Value → Shared → Prop} {env : Env} {m : Str → Option Value} {X : Str} {p : Pos} {v : Value} {Q : Value → Shared → Prop} (hki : env.scope.kind = .function) (hk : env.kindOf X = some .local) (hn : s.heap.Ns env.locals m) (hm : m X = some v) (hX : okName X = true) (h : Q v s) : wpAny M A (eval (.Name X p) env) Q E s :=
  wpAny_Name (wpAny_loadName_local hki hk hn hm h) (by unfold okName at hX; simp at hX; simp [hX.1])
theorem slice_i {M : Model} {E : Value → Shared → Prop} {env : Env} {m : Str → Option Value} {p q : Pos} {j : Nat} {tj : Tok} {Q : Value → Shared → Prop} (hki : env.scope.kind = .function) (l2 : env.kindOf "i" = some .local) (hn : s.heap.Ns env.locals m) (hi : m "i" = some (.int j tj))
    (h : Q (.ref s.heap.objs.size) { s with heap := s.heap.push { cls := .type "slice", data := .fields #[.int j tj, .none, .none] } }) : wpAny M A (eval (.Slice (some (.Name "i" p)) none none q) env) Q E s := by
  refine wpAny_Slice ?_
  rw [evalPart_some]
  refine local_val hki l2 hn hi (by decide) ?_
  rw [evalPart_none]
  exact wpAny_pure (wpAny_pure h)
theorem pf_get {E : Value → Shared → Prop} {env : Env} {m : Str → Option Value} {p1 p2 p3 p4 : Pos} {j : Nat} {tj : Tok} {Q : Value → Shared → Prop} (I : PopFK c fP v0) (X : c.K.In s.heap) (hki : env.scope.kind = .function) (l1 : env.kindOf "self" = some .local) (l2 : env.kindOf "i" = some .local)
    (hn : s.heap.Ns env.locals m) (hs : m "self" = some (.ref x)) (hi : m "i" = some (.int j tj)) (hx : s.heap.get? x = some (accObj c.C dd vs nn)) (hd : s.heap.get? dd = some od) (hsz : vs.length ≤ 1048576) (hj : j ≤ vs.length)
    (h : ∀ h' a, s.heap.get? a = none → (∀ b o, s.heap.get? b = some o → h'.get? b = some o) → h'.get? a = some (lstObj (vs.drop j) 0) → Q (.ref a) { s with heap := h' }) :
    wpAny (model c.prog c.w) A (eval (.Subscript (.Name "self" p1) (.Slice (some (.Name "i" p2)) none none p3) p4) env) Q E s := by
  refine Subscript_ (local_val hki l1 hn hs (by decide) (slice_i hki l2 hn hi ?_))
  have k1 : ∀ b o, s.heap.get? b = some o → (s.heap.push { cls := .type "slice", data := .fields #[.int j tj, .none, .none] }).get? b = some o := fun b o e => Heap.get?_push_of_some _ e
  have hsl : (s.heap.push { cls := .type "slice", data := .fields #[.int j tj, .none, .none] }).IsSliceOf s.heap.objs.size (.int j tj) .none .none := Heap.IsSliceOf.new ..
  have hsl2 : ({ s with heap := s.heap.push { cls := .type "slice", data := .fields #[.int j tj, .none, .none] } } : Shared).heap.objs.size = s.heap.objs.size + 1 := Heap.size_push ..
  generalize hh : s.heap.push { cls := .type "slice", data := .fields #[.int j tj, .none, .none] } = h1 at k1 hsl hsl2 ⊢
  have I1 := acc_inst (c := c) (k1 _ _ hx) (k1 _ _ hd)
  unfold subscriptTail
  refine wpAny_bind ?_
  rw [getitemInPython_of_ne (by intro e; cases e)]
  refine wpAny_bind (wpAny_bind (I1.type.here ((looks_findIn (X.keeps k1) I.geti).here ?_)))
  refine wpAny_pure ?_
  refine wpAny_bind (wpAny_operating (inst_getSlice (s := { s with heap := h1 }) I.cls (X.keeps k1) I1 I.geti (its := vs.toArray) rfl hsl (.int j tj) .none (by rw [List.size_toArray]; exact Nat.le_trans hsz (by decide)) ?_))
  refine wpAny_bind (wpAny_of_eq (a := ()) (by rfl) (wpAny_pure ?_))
  have e : slicePick vs.toArray (some (j : Int)) none none = (vs.drop j).toArray := slicePick_from vs.toArray j (by rw [List.size_toArray]; exact hj)
  rw [e]
  refine h _ _ ?_ (fun b o e => Heap.get?_push_of_some _ (k1 b o e)) (Heap.get?_push_size _ rfl)
  cases q : s.heap.get? h1.objs.size with
  | none => rfl
  | some o => exact absurd (Heap.lt_size (k1 _ _ q)) (Nat.lt_irrefl _)
theorem pf_cut {E : Value → Shared → Prop} {env : Env} {m : Str → Option Value} {p1 p2 p3 p4 p5 p6 : Pos} {j : Nat} {tj : Tok} {Q : Flow → Shared → Prop} (I : PopFK c fP v0) (X : c.K.In s.heap) (hki : env.scope.kind = .function) (l1 : env.kindOf "self" = some .local) (l2 : env.kindOf "i" = some .local)
    (hn : s.heap.Ns env.locals m) (hs : m "self" = some (.ref x)) (hi : m "i" = some (.int j tj)) (hx : s.heap.get? x = some (accObj c.C dd vs nn)) (hd : s.heap.get? dd = some od) (hsz : vs.length ≤ 1048576) (hj : j ≤ vs.length)
    (h : ∀ h' n', (∀ b o, b ≠ x → s.heap.get? b = some o → h'.get? b = some o) → h'.get? x = some (accObj c.C dd (vs.take j) n') → Q .next { s with heap := h' }) :
    wpAny (model c.prog c.w) A (exec (.Assign [.Subscript (.Name "self" p1) (.Slice (some (.Name "i" p2)) none none p3) p4] (.List [] p5) p6) env) Q E s := by
  refine wpAny_Assign_Subscript (wpAny_List (wpAny_items_nil ⟨by simp [sizeLine], ?_⟩)) (by rfl)
  have k1 : ∀ b o, s.heap.get? b = some o → (s.heap.push { cls := .type "list", data := .seq (#[] : Array Value) }).get? b = some o := fun b o e => Heap.get?_push_of_some _ e
  have he : (s.heap.push { cls := .type "list", data := .seq (#[] : Array Value) }).get? s.heap.objs.size = some { cls := .type "list", data := .seq (#[] : Array Value) } := Heap.get?_push_size _ rfl
  show wpAny _ _ _ _ _ { s with heap := s.heap.push { cls := .type "list", data := .seq (#[] : Array Value) } }
  generalize s.heap.push { cls := .type "list", data := .seq (#[] : Array Value) } = h1 at k1 he ⊢
  have hn1 : h1.Ns env.locals m := hn.at' fun o e => k1 _ o e
  refine local_val (s := { s with heap := h1 }) hki l1 hn1 hs (by decide) (slice_i (s := { s with heap := h1 }) hki l2 hn1 hi ?_)
  have k2 : ∀ b o, h1.get? b = some o → (h1.push { cls := .type "slice", data := .fields #[.int j tj, .none, .none] }).get? b = some o := fun b o e => Heap.get?_push_of_some _ e
  have hsl : (h1.push { cls := .type "slice", data := .fields #[.int j tj, .none, .none] }).IsSliceOf h1.objs.size (.int j tj) .none .none := Heap.IsSliceOf.new ..
  generalize h1.push { cls := .type "slice", data := .fields #[.int j tj, .none, .none] } = h2 at k2 hsl ⊢
  have k3 : ∀ b o, s.heap.get? b = some o → h2.get? b = some o := fun b o e => k2 b o (k1 b o e)
  refine inst_cutFrom (s := { s with heap := h2 }) I.cls (X.keeps k3) (acc_inst (k3 _ _ hx) (k3 _ _ hd)) I.seti (its := vs.toArray) rfl hsl (.int j tj) (by rw [List.size_toArray]; exact hj) (by rw [List.size_toArray]; exact hsz) (k2 _ _ he) rfl rfl fun h' f k4 e4 ef => ?_
  obtain ⟨n', e8⟩ := map_acc c.C dd vs nn f
  refine h h' n' (fun b o hb e => k4 b o hb (k3 b o e)) ?_
  rw [e4, e8, ef]
  rfl
theorem call_popFrom {Q : Value → Shared → Prop} {args : List Value} {j : Nat} {tj : Tok} (O : Ok c) (R : Rm (n + 1) A) (I : PopFK c fP v0) (X : c.K.In s.heap) (hlim : s.heap.NoLimit)
    (hx : s.heap.get? x = some (accObj c.C dd vs nn)) (hd : s.heap.get? dd = some od) (hsz : vs.length ≤ 1048576) (hj : j ≤ vs.length) (ha : args = [.ref x, .int j tj] ∨ (args = [.ref x] ∧ v0 = .int j tj))
    (hQ : ∀ a h' n' m' tk, s.heap.get? a = none → (∀ b o, b ≠ x → s.heap.get? b = some o → h'.get? b = some o) → h'.get? x = some (accObj c.C dd (vs.take j) n') → h'.get? a = some (lstObj (vs.drop j) m') → Q (.ref a) { s with heap := h', toks := tk }) :
    wpAny (model c.prog c.w) A (call (.ref fP) args) Q (fun _ _ => False) s := by
  refine I.fn _ fun fd p1 p2 p3 p4 p5 p6 p7 p8 p9 p10 p11 p12 p13 p14 of hof hfd hcode hbody hco hgen hkind hcell l1 l2 l3 b1 b2 => ?_
  have hbind : BindsTo s fd ⟨args, []⟩ [("self", .ref x), ("i", .int j tj)] := by
    rcases ha with rfl | ⟨rfl, e⟩
    · exact b2 s _ _ X
    · have := b1 s (.ref x) X
      rw [e] at this
      exact this
  refine wpAny_call (ks_codeAny_call_defAt (fd := fd) (binds := [("self", .ref x), ("i", .int j tj)]) (Nat.lt_of_le_of_lt (Nat.le_add_right _ (n + 1)) (Nat.lt_trans R.2.1 (by decide))) (X _ _ hof) hfd hlim (codeRec_of X hcode) hbody hbind hcell (fun y hy => ?_) (fun h₀ hns hk => ?_) hco hgen hkind)
  · rcases List.mem_cons.mp hy with rfl | hy
    · exact l1
    · rw [List.mem_singleton.mp hy]; exact l2
  · have hX0 := X.keeps hk
    have hLs : s.heap.get? s.heap.objs.size = none := size_none _
    generalize hL : s.heap.objs.size = L at *
    have hl1 : (callEnv fd L fP).kindOf "self" = some .local := l1
    have hl2 : (callEnv fd L fP).kindOf "i" = some .local := l2
    have hl3 : (callEnv fd L fP).kindOf "popped" = some .local := l3
    have hki : (callEnv fd L fP).scope.kind = .function := hkind
    have hloc : (callEnv fd L fP).locals = L := rfl
    generalize callEnv fd L fP = env at *
    subst hloc
    have ms : (fun y => List.lookup y (List.reverse [(("self" : Str), Value.ref x), ("i", .int j tj)])) "self" = some (.ref x) := by
      show List.lookup ("self" : Str) [(("i" : Str), Value.int j tj), ("self", .ref x)] = _
      rw [List.lookup_cons, show (("self" : Str) == "i") = false by decide, List.lookup_cons, show (("self" : Str) == "self") = true by decide]
    have mi : (fun y => List.lookup y (List.reverse [(("self" : Str), Value.ref x), ("i", .int j tj)])) "i" = some (.int j tj) := by
      show List.lookup ("i" : Str) [(("i" : Str), Value.int j tj), ("self", .ref x)] = _
      rw [List.lookup_cons, show (("i" : Str) == "i") = true by decide]
    generalize (fun y => List.lookup y (List.reverse [(("self" : Str), Value.ref x), ("i", .int j tj)])) = m at hns ms mi
    refine _root_.PySem.wpAt_of_wpAny (wpAny_execs_cons (wpAny_Assign_Name (pf_get (s := { s with heap := h₀, toks := _ }) I hX0 hki hl1 hl2 hns ms mi (hk _ _ hx) (hk _ _ hd) hsz hj fun h1 a ha k1 e1 => ?_) (by rfl)))
    have hne : env.locals ≠ a := fun q => by
      subst q
      obtain ⟨o, _, _, e, _⟩ := hns
      rw [show h₀.get? env.locals = none from ha] at e; cases e
    refine wpAny_storeName_local hl3 (hns.at' fun o e => k1 _ o e) (fun h2 hn2 hs2 => ?_) (by rw [hki]; rfl)
    have k2 : ∀ b o, b ≠ env.locals → h1.get? b = some o → h2.get? b = some o := hs2.extBut
    have kk : ∀ b o, s.heap.get? b = some o → h2.get? b = some o := fun b o e => k2 b o (fun q => by rw [q, hLs] at e; cases e) (k1 b o (hk b o e))
    refine wpAny_execs_cons (pf_cut (s := { s with heap := h2, toks := _ }) I (X.keeps kk) hki hl1 hl2 hn2 (by rw [if_neg (by decide)]; exact ms) (by rw [if_neg (by decide)]; exact mi) (kk _ _ hx) (kk _ _ hd) hsz hj fun h3 n3 k3 e3 => ?_)
    have hxl : env.locals ≠ x := fun q => by rw [← q, hLs] at hx; cases hx
    have hn3 := hn2.at' (h' := h3) fun o e => k3 _ o hxl e
    refine wpAny_execs_cons (wpAny_Return_some (local_val (s := { s with heap := h3, toks := _ }) hki hl3 hn3 (by rw [if_pos rfl]) (by decide) ?_))
    have hax : a ≠ x := fun q => by
      have h9 := hk _ _ hx
      rw [← q, show h₀.get? a = none from ha] at h9; cases h9
    refine hQ a h3 n3 0 _ ?_ (fun b o hb e => k3 b o hb (kk b o e)) e3 (k3 _ _ hax (k2 _ _ (Ne.symm hne) e1))
    cases q : s.heap.get? a with
    | none => rfl
    | some o =>
      have h9 := hk _ _ q
      rw [show h₀.get? a = none from ha] at h9; cases h9
end
section
variable {c : Cx} {A : Around} {st : Store} {n : Nat} {fP : Addr} {v0 : Value}
noncomputable def optL (o : Option D) : List D := match o with | some d => [d] | none => []
theorem from_int {l : List D} {o : Option D} {k : Nat} (h : fromP l o = some k) : k ≤ l.length ∧ ((o = none ∧ k = 0) ∨ o = some (.int k)) := by
  cases o with
  | none => cases h; exact ⟨Nat.zero_le _, .inl ⟨rfl, rfl⟩⟩
  | some d =>
    obtain ⟨i, h1, h⟩ := bd_ok h
    rw [dI_ok h1]
    obtain ⟨⟨h1, h2⟩, h⟩ := if_ok h
    cases h
    exact ⟨h2, .inr (by rw [Int.toNat_of_nonneg h1])⟩
theorem popFrom_E {i k : Nat} {l : List D} {o : Option D} (O : Ok c) (R : Rm (n + 1) A) (I : PopFK c fP v0) (hl : st[i]? = some (.acc l)) (hn : l.length ≤ lid) (h : fromP l o = some k) : CallE c A (.ref fP) (.ref i :: optL o) st (.lst (l.drop k)) (st.set i (.acc (l.take k))) := by
  intro fm ρ s vs W ls Q hQ
  obtain ⟨hk, ho⟩ := from_int h
  cases ls with | cons lv ls =>
  cases lv with | ref ha =>
  rename_i vs a
  obtain ⟨us, nn, dd, od, hx, hd, had, lu⟩ := W.store _ _ _ ha hl
  have hlen := lu.length
  obtain ⟨t0, hv0⟩ := I.zero
  obtain ⟨tj, harg⟩ : ∃ tj, Value.ref a :: vs = [.ref a, .int (k : Int) tj] ∨ (Value.ref a :: vs = [.ref a] ∧ v0 = .int (k : Int) tj) := by
    rcases ho with ⟨rfl, rfl⟩ | rfl
    · cases ls; exact ⟨t0, .inr ⟨rfl, hv0⟩⟩
    · obtain ⟨v, rfl, lv⟩ := lays1 ls
      cases lv with | int _ t =>
      exact ⟨t, .inl rfl⟩
  refine call_popFrom (tj := tj) O R I (W.K O) (W.lim O) hx hd.1 (by rw [hlen]; exact hn) (by rw [hlen]; exact hk) harg fun b h' n' m' tk hb kk ex eb => ?_
  have hdn : dd ≠ a := fun q => hd.2 (List.mem_append_right _ (q ▸ List.mem_of_getElem? ha))
  have A1 : Adv ρ ρ s { s with heap := h', toks := tk } := ⟨fun b o hb e => kk b o (fun q => hb (q ▸ List.mem_of_getElem? ha)) e, fun _ h n => absurd h n, fun _ _ e => e⟩
  obtain ⟨W1, _⟩ := W.upd (s' := { s with heap := h', toks := tk }) (mo := .acc (l.take k)) ha ⟨_, _, rfl⟩ kk ⟨_, ex⟩ ⟨us.take k, n', dd, od, ex, (A1.go fm).out hd, had, A1.lays (lu.take k)⟩
  exact hQ _ _ ρ W1 A1 (.lst (n := m') (W.out_new (s' := { s with heap := h', toks := tk }) hb eb) (A1.lays (lu.drop k)))
end
end Mine.Internal
end
section
open PySem PySem.W PySem.Calls PyProof.Rows PySem.Builtin
set_option Elab.async false
set_option linter.unusedVariables false
set_option maxRecDepth 100000
namespace Mine.Internal

section
variable {prog : Program} {w : World} {A : Around} {E : Value → Shared → Prop} {s : Shared} {C x : Addr} {K : Frag} {ox : Obj} {od : Option Obj}

theorem ik : builtinKind "list.__iter__" = some .slot := by decide +kernel
theorem is' : splitId "list.__iter__" = some ("list", "__iter__") := by decide +kernel
theorem inst_iter {Q : Value → Shared → Prop} (k : ClsK K C) (X : K.In s.heap) (I : InstAt s.heap x ox C od) (hi : findIn K (.ref C) "__iter__" = some (some (.builtin "list.__iter__")))
    (hQ : Q (.ref s.heap.objs.size) { s with heap := s.heap.push { cls := .type "list_iterator", data := .fields #[.ref x, .int 0 0] } }) : wpAny (model prog w) A (pyIter (.ref x)) Q E s := by
  have hcall : wpAny (model prog w) A (call (.builtin "list.__iter__") [.ref x]) (fun v s' => v = .ref s.heap.objs.size ∧ s' = { s with heap := s.heap.push { cls := .type "list_iterator", data := .fields #[.ref x, .int 0 0] } }) E s := by
    refine inst_call (n := "__iter__") PySem.slot_list_iter.plain PySem.entry_list_iter (fun Q' E' q => @chk_lists A.in1 E' s x _ Q' "list.__iter__" "__iter__" [] ik is' (isList_inst k X I) (PySem.args_list_iter _) q) ?_
    show wpAny _ _ (do ret (← newFields "list_iterator" [.ref x, rawInt 0])) _ _ s
    exact wpAny_bind (wpAny_newObj_type (wpAny_pure ⟨_, rfl, rfl, rfl⟩))
  have one : ∀ refuse : Sem Value, wpAny (model prog w) A (callSpecialIfBoundUnlessNone? (.ref x) "__iter__" refuse) (fun r s' => ∃ v, r = some v ∧ v = .ref s.heap.objs.size ∧ s' = { s with heap := s.heap.push { cls := .type "list_iterator", data := .fields #[.ref x, .int 0 0] } }) E s := by
    intro refuse
    have fin : wpAny (model prog w) A (call (.builtin "list.__iter__") [.ref x] >>= fun v => pure (some v)) (fun r s' => ∃ v, r = some v ∧ v = .ref s.heap.objs.size ∧ s' = { s with heap := s.heap.push { cls := .type "list_iterator", data := .fields #[.ref x, .int 0 0] } }) E s :=
      wpAny_bind (wpAny_mono hcall (fun v s' h' => wpAny_pure ⟨v, rfl, h'⟩) fun _ _ z => z)
    have fin2 : wpAny (model prog w) A (if (Value.builtin "list.__iter__" == Value.none) = true then (refuse >>= fun v => pure (some v)) else (call (.builtin "list.__iter__") [.ref x] >>= fun v => pure (some v))) (fun r s' => ∃ v, r = some v ∧ v = .ref s.heap.objs.size ∧ s' = { s with heap := s.heap.push { cls := .type "list_iterator", data := .fields #[.ref x, .int 0 0] } }) E s := by
      rw [if_neg (by rw [builtin_beq_none]; exact Bool.false_ne_true)]
      exact fin
    simp only [callSpecialIfBoundUnlessNone?, bindSpecialIfBound?]
    refine wpAny_holding (wpAny_bind (wpAny_bind (wpAny_bind (I.type.here ((looks_findIn X hi).here ?_)))))
    refine wpAny_bind (wpAny_askSetting (wpAny_ite ?_))
    split
    · exact wpAny_bind (wpAny_of_eq (PySem.slot_list_iter.bind _) (wpAny_pure (by exact fin2)))
    · exact wpAny_tryCatch (wpAny_bind (wpAny_of_eq (PySem.slot_list_iter.bind _) (wpAny_pure (by exact fin2))))
  unfold pyIter
  refine wpAny_bind (wpAny_bind (I.type.here ((looks_findIn X hi).here ?_)))
  show wpAny _ A (callSpecialIfBoundUnlessNone? (.ref x) "__iter__" _ >>= _) Q E s
  refine wpAny_bind (wpAny_mono (one _) (fun r s' hr => ?_) fun _ _ z => z)
  obtain ⟨v, rfl, rfl, rfl⟩ := hr
  exact wpAny_bind (wpAny_specialOf (T := "list_iterator") ⟨_, Heap.get?_push_size _ rfl, rfl⟩ slot_listiter_next.lookup (wpAny_pure hQ))

noncomputable def SeqIn (h : Heap) (a : Addr) (its : Array Value) : Prop := ∃ o n, h.get? a = some o ∧ o.data = .seq its n

theorem seq_item {it l : Addr} {i : Nat} {items : Array Value} {v : Value} {Q : Option Value → Shared → Prop} (hit : s.heap.IsListIter it l i) (hl : SeqIn s.heap l items) (hx : items[i]? = some v)
    (hQ : ∀ h', h'.IsListIter it l (i + 1) → Heap.SameBut it s.heap h' → Q (some v) { s with heap := h' }) : wpAny (model prog w) A (pyNext (.ref it)) Q E s := by
  obtain ⟨o, ho, hc, hd⟩ := id hit
  obtain ⟨ol, nl, hol, hdl⟩ := hl
  unfold pyNext
  refine wpAny_bind (wpAny_attempt (wpAny_callSpecial?_slot (name := Str.ofString "__next__") hit.typeIs slot_listiter_next
    (wpAny_call_entry slot_listiter_next hit.typeIs entry_listiter_next ?_ (args_listiter_next _))))
  show wpAny _ _ (field (.ref it) 0 >>= _) _ _ s
  refine wpAny_bind (wpAny_field ho hd (x := .ref l) rfl ?_)
  show wpAny _ _ (if (Value.ref l == Value.none) = true then _ else _) _ _ s
  rw [if_neg (show ¬ ((Value.ref l == Value.none) = true) from Bool.false_ne_true)]
  show wpAny _ _ (field (.ref it) 1 >>= _) _ _ s
  refine wpAny_bind (wpAny_field ho hd (x := .int i 0) rfl ?_)
  show wpAny _ _ (seqItems? (.ref l) >>= _) _ _ s
  refine wpAny_bind (wpAny_seqItems hol hdl ?_)
  simp only [Int.toNat_natCast, hx]
  refine wpAny_bind (wpAny_setField ho hd (by simp) (wpAny_pure ⟨v, rfl, wpAny_pure (hQ _ ?_ (Heap.SameBut.update ..))⟩))
  exact ⟨_, Heap.get?_update_self _ ho (Obj.isFreed_of_fields (Obj.data_mapFields hd _)), (Obj.cls_mapFields ..).trans hc, by
    rw [Obj.data_mapFields hd]; simp [rawInt]⟩
theorem seq_end {it l : Addr} {i : Nat} {items : Array Value} {Q : Option Value → Shared → Prop} (hh : A.handled = none) (hit : s.heap.IsListIter it l i) (hl : SeqIn s.heap l items) (hx : items[i]? = none)
    (hQ : ∀ h', Heap.ExtBut it s.heap h' → Q none { s with heap := h' }) : wpAny (model prog w) A (pyNext (.ref it)) Q E s := by
  obtain ⟨o, ho, hc, hd⟩ := id hit
  obtain ⟨ol, nl, hol, hdl⟩ := hl
  unfold pyNext
  refine wpAny_bind (wpAny_attempt (wpAny_callSpecial?_slot (name := Str.ofString "__next__") hit.typeIs slot_listiter_next
    (wpAny_call_entry slot_listiter_next hit.typeIs entry_listiter_next ?_ (args_listiter_next _))))
  show wpAny _ _ (field (.ref it) 0 >>= _) _ _ s
  refine wpAny_bind (wpAny_field ho hd (x := .ref l) rfl ?_)
  show wpAny _ _ (if (Value.ref l == Value.none) = true then _ else _) _ _ s
  rw [if_neg (show ¬ ((Value.ref l == Value.none) = true) from Bool.false_ne_true)]
  show wpAny _ _ (field (.ref it) 1 >>= _) _ _ s
  refine wpAny_bind (wpAny_field ho hd (x := .int i 0) rfl ?_)
  show wpAny _ _ (seqItems? (.ref l) >>= _) _ _ s
  refine wpAny_bind (wpAny_seqItems hol hdl ?_)
  simp only [Int.toNat_natCast, hx]
  refine wpAny_bind (wpAny_rule (wpAny_bind (wpAny_setField ho hd (by simp) ?_)))
  show wpAny _ _ (newExc (.type "StopIteration") [] >>= _) _ _ _
  refine wpAny_bind ?_
  simp only [newExc, newTuple]
  refine wpAny_bind (wpAny_newObj_type ?_ (by size_fits))
  refine wpAny_bind (m := firstArgMember _ _) (wpAny_of_eq (a := Value.none) (by first | rfl | (simp only [firstArgMember]; rfl)) ?_)
  refine wpAny_newObj_type ?_ (by size_fits)
  simp only [raiseNew]
  refine wpAny_bind (wpAny_handled ?_)
  rw [show A.in1.handled = none from hh]
  refine wpAny_bind (wpAny_pure (wpAny_throw ?_))
  refine wpAny_bind (wpAny_isInstance (T := "StopIteration") (b := true) ⟨_, Heap.get?_push_size _ rfl, rfl⟩ isSubtype_stop ?_)
  exact wpAny_pure (hQ _ (((Heap.SameBut.update ..).extBut.push _).push _))

theorem SeqIn.at {h h' : Heap} {a : Addr} {its : Array Value} (x : SeqIn h a its) (e : ∀ o, h.get? a = some o → h'.get? a = some o) : SeqIn h' a its := let ⟨o, n, q, r⟩ := x; ⟨o, n, e _ q, r⟩
theorem walks_acc (hh : A.handled = none) (I ax : Addr) (hne : ax ≠ I) (items : Array Value) (Ts : Nat → Addr) (vals : Nat → Array Value)
    (hit : ∀ j, j < items.size → items[j]? = some (.ref (Ts j))) (hTI : ∀ j, j < items.size → Ts j ≠ I) :
    WalksU prog w A I (I :: ax :: (List.range items.size).map Ts) [I] items.size (fun j v => v = vals j)
      (fun j h => h.IsListIter I ax j ∧ SeqIn h ax items ∧ ∀ k, k < items.size → h.IsTuple (Ts k) (vals k))
      (fun j T h => (j < items.size ∧ T = Ts j) ∧ h.IsListIter I ax (j + 1) ∧ SeqIn h ax items ∧ ∀ k, k < items.size → h.IsTuple (Ts k) (vals k)) where
  sub := fun b hb => by rw [List.mem_singleton.mp hb]; exact .head _
  frame := fun _ _ _ st hk => ⟨st.1.at fun o e => hk I (.head _) o e, st.2.1.at fun o e => hk ax (.tail _ (.head _)) o e,
    fun k hk' => (st.2.2 k hk').at fun o e => hk (Ts k) (List.mem_cons_of_mem _ (List.mem_cons_of_mem _ (List.mem_map.mpr ⟨k, List.mem_range.mpr hk', rfl⟩))) o e⟩
  item := fun i s Q E hi st hQ => by
    refine seq_item st.1 st.2.1 (v := .ref (Ts i)) (hit i hi) fun h' hit' hs' => ?_
    have tup : ∀ k, k < items.size → h'.IsTuple (Ts k) (vals k) := fun k hk' => (st.2.2 k hk').extBut hs'.extBut (hTI k hk')
    exact hQ (Ts i) (vals i) h' s.toks rfl (tup i hi) ⟨⟨hi, rfl⟩, hit', st.2.1.at fun o e => hs'.extBut _ o hne e, tup⟩ fun b o hb e => hs'.extBut b o (fun h => hb (h ▸ .head _)) e
  go := fun _ _ _ _ _ s Q _ hm hQ => wpAny_letOwnedTupleGo_listiter hm.2.1 (hQ s.heap hm.2 fun _ _ _ e => e)
  apart := fun j T _ hm hmem => hTI j hm.1.1 (hm.1.2 ▸ List.mem_singleton.mp hmem)
  done := fun s Q E st hQ => seq_end hh st.1 st.2.1 (Array.getElem?_eq_none (Nat.le_refl _)) fun h' he' => hQ h' s.toks fun b o hb e => he' b o (fun h => hb (h ▸ .head _)) e
  self := fun _ _ _ _ st hQ => wpAny_pyIter_listiter st.1 hQ
end
end Mine.Internal
end
section
open PySem PySem.W PySem.Calls PyProof.Rows PySem.Builtin
set_option Elab.async false
set_option linter.unusedVariables false
set_option maxRecDepth 100000
namespace Mine.Internal

section
variable {M : Model} {A : Around} {E : Value → Shared → Prop} {s : Shared}
theorem gen_code {env : Env} {c P : Addr} {ps : Array Value} {pos : Pos} {qualname : Str} {scope : Scope} {Q : Value → Shared → Prop} (hc : env.code = .ref c) (hok : s.heap.IsCode c P ps) (htab : s.heap.TableAt c P ps)
    (hQ : ∀ v h' tk ps', Heap.ExtBut P s.heap h' → s.heap.objs.size ≤ h'.objs.size → h'.IsCode c P ps' → h'.TableAt c P ps' → Q v { s with heap := h', toks := tk }) : wpAny M A (genexprCode env pos qualname scope) Q E s := by
  cases hf : codeAmong pos ps.toList with
  | some c' => exact wpAny_genexprCode_hit hc hok hf (hQ c' s.heap s.toks ps (fun _ _ _ e => e) (Nat.le_refl _) hok htab)
  | none => exact wpAny_genexprCodeX hc hok htab hf fun c' h' tk k h1 h2 h3 h4 h5 _ => hQ _ h' tk _ k (Nat.le_trans h1 (Nat.le_of_lt h2)) h3 h5
end

noncomputable abbrev strElt (p1 p2 p3 p4 p5 p6 : Pos) (k : Nat) : Expr := .Call (.Attribute (.Name "EMPTYSTRING" p1) "join" p2) [.Tuple [.Name "fws" p3, .Name "part" p4] k p5] [] p6
noncomputable abbrev strGen (elt : Expr) (p1 p2 p3 p4 p5 : Pos) (k : Nat) (sc : Scope) : Expr := .GeneratorExp elt [⟨.Tuple [.Name "fws" p1, .Name "part" p2] k p3, .Name "self" p4, [], 0⟩] sc p5

section
variable {c : Cx} {A : Around} {E : Value → Shared → Prop} {s : Shared}

theorem emp_name {env : Env} {p : Pos} {t : Tok} {Q : Value → Shared → Prop} (X : c.K.In s.heap) (he : nsIn c.K mainGlobals "EMPTYSTRING" = some (some (.str ⟨#[]⟩ t))) (hg : env.globals = mainGlobals) (hk : env.scope.kind = .function) (kE : env.kindOf "EMPTYSTRING" = some .globalImplicit)
    (h : Q (.str ⟨#[]⟩ t) s) : wpAny (model c.prog c.w) A (eval (.Name "EMPTYSTRING" p) env) Q E s := by
  refine Name_function_global hk kE ?_ (by decide)
  unfold loadGlobal
  rw [hg]
  exact wpAny_bind ((looks_nsIn X he).here (wpAny_pure h))
theorem elt_join {env : Env} {m : Str → Option Value} {p1 p2 p3 p4 p5 p6 : Pos} {k : Nat} {t ta tb : Tok} {a b : Str} (X : c.K.In s.heap) (he : nsIn c.K mainGlobals "EMPTYSTRING" = some (some (.str ⟨#[]⟩ t))) (hg : env.globals = mainGlobals) (hk : env.scope.kind = .function)
    (kE : env.kindOf "EMPTYSTRING" = some .globalImplicit) (kf : env.kindOf "fws" = some .local) (kp : env.kindOf "part" = some .local) (hp : p2.endLine = p6.line) (hn : s.heap.Ns env.locals m) (hf : m "fws" = some (.str a ta)) (hpt : m "part" = some (.str b tb)) (hok : JoinOk ⟨#[]⟩ [a, b] = true) :
    wpAny (model c.prog c.w) A (eval (strElt p1 p2 p3 p4 p5 p6 k) env) (fun y s' => (∃ u, y = .str (Txt.join ⟨#[]⟩ [a, b]) u) ∧ Keeps s s') E s := by
  refine meth_call rfl rfl (by simp) hp (emp_name X he hg hk kE ?_)
  with_reducible refine GM.join ?_
  refine callWith_builtin (plain_args (l := [Expr.Tuple _ _ _]) rfl) (call_args (l := [Expr.Tuple _ _ _]) rfl (wpAny_items_cons (wpAny_Tuple (wpAny_items_cons (local_val hk kf hn hf (by decide) (wpAny_items_cons (local_val hk kp hn hpt (by decide) (wpAny_items_nil ?_)))))) ))
  refine ⟨by simp [sizeLine], wpAny_items_nil ?_⟩
  refine join_tuple (items := #[.str a ta, .str b tb]) (ys := [a, b]) ⟨_, Heap.get?_push_size _ rfl, rfl, _, rfl⟩ (.cons _ _ (.cons _ _ .nil)) ?_ fun t' k => ?_
  · unfold JoinOk at hok
    simp only [List.foldl_toArray, List.foldl_cons, List.foldl_nil, Bool.not_eq_true', Builtin.Str.tooLong, decide_eq_false_iff_not, Nat.not_lt] at hok
    have e : sizeLine = 16777216 := rfl
    have z : ({ cps := #[] } : Str).length = 0 := rfl
    rw [z, e] at hok
    rw [z]
    simpa using hok
  · exact ⟨⟨t', rfl⟩, _, k, rfl, fun b o e => Heap.get?_push_of_some _ e⟩
noncomputable def PairsAt (h : Heap) (vs : List Value) (prs : List (Str × Str)) : Prop :=
  vs.length = prs.length ∧ ∀ (j : Nat) (a b : Str), prs[j]? = some (a, b) → ∃ (T : Addr) (ta tb : Tok), vs[j]? = some (Value.ref T) ∧ h.IsTuple T #[.str a ta, .str b tb]

theorem gen_make {env : Env} {m : Str → Option Value} {p1 p2 p3 p4 p5 p6 q1 q2 q3 q4 q5 : Pos} {k kq : Nat} {scope : Scope} {t : Tok} {x dd P : Addr} {od : Obj} {vs : List Value} {nn : Nat} {ps : Array Value} {prs : List (Str × Str)} {fS : Addr} {Q : Value → Shared → Prop}
    (X : c.K.In s.heap) (k0 : ClsK c.K c.C) (hi : findIn c.K (.ref c.C) "__iter__" = some (some (.builtin "list.__iter__"))) (he : nsIn c.K mainGlobals "EMPTYSTRING" = some (some (.str ⟨#[]⟩ t))) (hlim : s.heap.NoLimit) (hm : ∃ mg bm ob, BMod s.heap mainGlobals mg bm ob)
    (hg : env.globals = mainGlobals) (hk : env.scope.kind = .function) (ks : env.kindOf "self" = some .local) (hcode : env.code = .ref c.TC) (hok : s.heap.IsCode c.TC P ps) (htab : s.heap.TableAt c.TC P ps)
    (hh : A.handled = none) (hroom : A.depth < recursionLimit) (hn : s.heap.Ns env.locals m) (hs : m "self" = some (.ref x))
    (hco : scope.isCoroutine = false) (hkind : scope.kind = .function) (hcell : ∀ y ∈ scope.names, y.2 ≠ .cell) (hcl : closureFor scope env = pure []) (h0 : scope.names.lookup (".0" : Str) = some NameKind.local) (kf : scope.names.lookup ("fws" : Str) = some .local) (kp : scope.names.lookup ("part" : Str) = some .local) (kE : scope.names.lookup ("EMPTYSTRING" : Str) = some .globalImplicit)
    (hpos : p2.endLine = p6.line) (hx : s.heap.get? x = some (accObj c.C dd vs nn)) (hd : s.heap.get? dd = some od) (hv : PairsAt s.heap vs prs) (hj : ∀ p ∈ prs, JoinOk ⟨#[]⟩ [p.1, p.2] = true)
    (hKP : ∀ o, c.K.lookup P ≠ some o) (hQ : ∀ a h' tk gs fp wr P' St, WalksS c.prog c.w A.in4 a fp wr (GenOnlyQ s.gens.size) prs.length P' St → (∀ j y, P' j y → ∃ a b u, prs[j]? = some (a, b) ∧ y = .str (Txt.join ⟨#[]⟩ [a, b]) u) → St 0 { s with gens := s.gens.push gs, toks := tk, heap := h' } → (∀ i s', St i s' → s'.TypeIs (.ref a) "generator") → a ∈ fp → (∀ b ∈ fp, b < h'.objs.size) →
      (∀ b ∈ wr, s.heap.get? b = none) → gs.bare = true → (∀ b o, b ≠ P → s.heap.get? b = some o → h'.get? b = some o) → (∃ ps', h'.IsCode c.TC P ps' ∧ h'.TableAt c.TC P ps') → (∀ b ∈ wr, b ≠ P ∧ b ≠ c.TC) → Q (.ref a) { s with gens := s.gens.push gs, toks := tk, heap := h' }) :
    wpAny (model c.prog c.w) A (eval (strGen (strElt p1 p2 p3 p4 p5 p6 k) q1 q2 q3 q4 q5 kq scope) env) Q E s := by
  have hPx : P ≠ x := fun e => by
    have := htab.2
    rw [e, hx] at this; cases this
  have hPT : ∀ T its, s.heap.IsTuple T its → T ≠ P := fun T its hT e => by
    obtain ⟨o, ho, hc, _⟩ := hT
    rw [e, htab.2] at ho; cases ho; cases hc
  refine wpAny_GeneratorExp_walksQT hh hco hcl hcell h0 kf kp (by decide) hkind hroom (local_val hk ks hn hs (by decide) (inst_iter k0 X (acc_inst hx hd) hi ?_)) (fun _ => rfl)
  have k1 : ∀ b o, s.heap.get? b = some o → (s.heap.push { cls := .type "list_iterator", data := .fields #[.ref x, .int 0 0] }).get? b = some o := fun b o e => Heap.get?_push_of_some _ e
  have hit1 : (s.heap.push { cls := .type "list_iterator", data := .fields #[.ref x, .int 0 0] }).IsListIter s.heap.objs.size x 0 := ⟨_, Heap.get?_push_size _ rfl, rfl, rfl⟩
  have sz1 : (s.heap.push { cls := .type "list_iterator", data := .fields #[.ref x, .int 0 0] }).objs.size = s.heap.objs.size + 1 := Heap.size_push ..
  generalize s.heap.push { cls := .type "list_iterator", data := .fields #[.ref x, .int 0 0] } = h1 at k1 hit1 sz1 ⊢
  have hIn := size_none s.heap
  generalize hI : s.heap.objs.size = I at *
  refine ⟨hlim.keeps k1, gen_code (s := { s with heap := h1 }) hcode (hok.keeps k1) (htab.keeps k1) fun v h2 tk2 ps2 k2 sz2 ok2 tab2 => ?_⟩
  have hl1 := hlim.keeps k1
  have hcP : cStatics ≠ P := fun e => by
    obtain ⟨_, hns, _⟩ := hl1
    obtain ⟨o, es, ep, ho, hd, _⟩ := hns
    rw [e, (htab.keeps k1).2] at ho; cases ho; cases hd
  have hl2 : h2.NoLimit := hl1.extBut k2 hcP
  refine nng fun nG => ?_
  obtain ⟨mg, bm, ob, B⟩ := hm
  refine nG ?_
  clear nG
  have B2 := (B.keeps k1).extBut (htab.keeps k1) k2
  have kk : ∀ b o, b ≠ P → s.heap.get? b = some o → h2.get? b = some o := fun b o hb e => k2 b o hb (k1 b o e)
  have hIP : I ≠ P := fun e => by rw [← e] at htab; rw [htab.2] at hIn; cases hIn
  have hIx : x ≠ I := fun e => by rw [← e, hx] at hIn; cases hIn
  rw [hg]
  refine wpAny_builtinsFor (s := { s with heap := h2, toks := tk2 }) B2.ns B2.name B2.ne B2.obj B2.cls B2.dict B2.data ?_
  obtain ⟨hvl, hva⟩ := hv
  have hT : ∀ j, ∃ T ta tb a b, j < vs.length → vs[j]? = some (Value.ref T) ∧ prs[j]? = some (a, b) ∧ s.heap.IsTuple T #[.str a ta, .str b tb] := fun j => by
    by_cases h : j < vs.length
    · have h' : j < prs.length := hvl ▸ h
      refine nng fun nG => ?_
      obtain ⟨T, ta, tb, e1, e2⟩ := hva j prs[j].1 prs[j].2 (List.getElem?_eq_getElem h')
      refine nG ?_
      clear nG
      exact ⟨T, ta, tb, prs[j].1, prs[j].2, fun _ => ⟨e1, List.getElem?_eq_getElem h', e2⟩⟩
    · exact ⟨0, 0, 0, ⟨#[]⟩, ⟨#[]⟩, fun h' => absurd h' h⟩
  have ⟨Ts, hT⟩ := Classical.axiomOfChoice hT
  have ⟨ta, hT⟩ := Classical.axiomOfChoice hT
  have ⟨tb, hT⟩ := Classical.axiomOfChoice hT
  have ⟨fa, hT⟩ := Classical.axiomOfChoice hT
  have ⟨fb, hT⟩ := Classical.axiomOfChoice hT
  have hTI : ∀ j, j < vs.length → Ts j ≠ I := fun j hj e => by
    obtain ⟨o, ho, _⟩ := (hT j hj).2.2
    rw [e, hIn] at ho; cases ho
  have hi2 : I < h2.objs.size := Nat.lt_of_lt_of_le (by rw [sz1]; exact Nat.lt_succ_self _) sz2
  have wk : ∀ A' : Around, A'.handled = none → WalksU c.prog c.w A' I (I :: x :: (List.range vs.toArray.size).map Ts) [I] vs.toArray.size _ _ _ := fun A' hA => walks_acc hA I x hIx vs.toArray Ts (fun j => #[.str (fa j) (ta j), .str (fb j) (tb j)]) (fun j hj => by rw [List.getElem?_toArray]; exact (hT j hj).1) (fun j hj => hTI j hj)
  refine ⟨I, _, [I], vs.toArray.size, _, _, _, fun _ => true, fun j y => ∃ u, y = .str (Txt.join ⟨#[]⟩ [fa j, fb j]) u, rfl, fun A' hA => (wk A' hA).bound, fun j vals e => ⟨_, _, e.2⟩, ⟨hit1.at fun o e => k2 _ o hIP e, ⟨_, _, kk _ _ (Ne.symm hPx) hx, rfl⟩, fun j hj => (hT j hj).2.2.at fun o e => kk _ o (hPT _ _ (hT j hj).2.2) e⟩, ?_, hl2, ?_, ?_, ?_⟩
  · intro b hb
    rcases List.mem_cons.mp hb with rfl | hb
    · exact hi2
    · rcases List.mem_cons.mp hb with rfl | hb
      · exact Heap.lt_size (kk _ _ (Ne.symm hPx) hx)
      · obtain ⟨j, hj, rfl⟩ := List.mem_map.mp hb
        obtain ⟨o, ho, _⟩ := (hT j (List.mem_range.mp hj)).2.2
        exact Heap.lt_size (kk _ _ (hPT _ _ (hT j (List.mem_range.mp hj)).2.2) ho)
  · intro hm
    obtain ⟨_, hns, _⟩ := hlim
    obtain ⟨o, es, ep, ho, _⟩ := hns
    rw [List.mem_singleton.mp hm, hIn] at ho; cases ho
  · intro href hr
    refine ⟨fun A' E' i va vb s₂ m₂ _ _ _ _ _ _ => wpAny_pure ⟨rfl, kp_rfl _⟩, fun A' E' i va vb s₂ m₂ _ hP _ hn2 ha hb hkp => ?_⟩
    obtain ⟨hi', e⟩ := hP
    obtain ⟨e1, e2⟩ : va = .str (fa i) (ta i) ∧ vb = .str (fb i) (tb i) := by
      have e3 := congrArg Array.toList e
      have e4 : [va, vb] = [Value.str (fa i) (ta i), .str (fb i) (tb i)] := e3
      injection e4 with e5 e6
      injection e6 with e6
      exact ⟨e5, e6⟩
    subst e1 e2
    have X2 : c.K.In s₂.heap := fun a o ea => by
      have e0 := X a o ea
      have e1 := kk a o (fun q => hKP o (q ▸ ea)) e0
      refine hkp a (List.mem_range.mpr (Heap.lt_size e1)) (fun q => ?_) o (hr a o e1)
      rw [List.mem_singleton.mp q, hIn] at e0; cases e0
    have w1 : (genEnv scope [] h2.objs.size v builtinsNs env).globals = mainGlobals := hg
    have w2 : (genEnv scope [] h2.objs.size v builtinsNs env).scope.kind = .function := hkind
    have w3 : (genEnv scope [] h2.objs.size v builtinsNs env).kindOf "EMPTYSTRING" = some .globalImplicit := kE
    have w4 : (genEnv scope [] h2.objs.size v builtinsNs env).kindOf "fws" = some .local := kf
    have w5 : (genEnv scope [] h2.objs.size v builtinsNs env).kindOf "part" = some .local := kp
    have hlt : i < vs.length := by rw [← List.size_toArray]; exact hi'
    have w6 : JoinOk ⟨#[]⟩ [fa i, fb i] = true := hj (fa i, fb i) (List.mem_of_getElem? (hT i hlt).2.1)
    revert hn2
    generalize genEnv scope [] h2.objs.size v builtinsNs env = ge at w1 w2 w3 w4 w5 ⊢
    intro hn2
    exact elt_join X2 he w1 w2 w3 w4 w5 hpos hn2 ha hb w6
  · intro a h5 tk gs hb ha hs5 k5 W G
    have hpass : passing (fun _ => true) vs.toArray.size 0 = List.range vs.length := by
      unfold passing
      rw [List.drop_zero, List.filter_eq_self.mpr fun _ _ => rfl, List.size_toArray]
    rw [hpass, List.length_range, hvl] at W
    have hC : s.heap.get? h2.objs.size = none := by
      cases e : s.heap.get? h2.objs.size with
      | none => rfl
      | some o =>
        have h9 := Heap.lt_size e
        rw [hI] at h9
        exact absurd h9 (Nat.lt_asymm hi2)
    have hwn : ∀ b ∈ [h2.objs.size, I], s.heap.get? b = none := fun b hb => by
      rcases List.mem_cons.mp hb with rfl | hb
      · exact hC
      · rw [List.mem_singleton.mp hb]; exact hIn
    refine hQ a h5 tk gs _ _ _ _ W (fun j y hy => ?_) G (fun i s' st => st.1.typeIs) (.head _) (fun b hb => ?_) hwn hb (fun b o hb e => k5 b o (kk b o hb e)) ⟨ps2, ok2.keeps k5, tab2.keeps k5⟩ (fun b hb => ⟨fun e => ?_, fun e => ?_⟩)
    · obtain ⟨i, hi, u, rfl⟩ := hy
      obtain ⟨h1', h2'⟩ := List.getElem?_eq_some_iff.mp hi
      rw [List.getElem_range] at h2'
      subst h2'
      rw [List.length_range] at h1'
      exact ⟨_, _, u, (hT j (hvl.symm ▸ h1')).2.1, rfl⟩
    · have hs6 : h5.objs.size = a + 1 := hs5
      have ha' : h2.objs.size < a := ha
      show b < h5.objs.size
      rw [hs6]
      rcases List.mem_cons.mp hb with rfl | hb
      · exact Nat.lt_succ_self _
      · rcases List.mem_cons.mp hb with rfl | hb
        · exact Nat.lt_succ_of_lt ha'
        · exact Nat.lt_succ_of_lt (Nat.lt_trans (List.mem_range.mp hb) ha')
    · have := hwn b hb
      rw [e, htab.2] at this; cases this
    · obtain ⟨⟨o, _, ho, _⟩, _⟩ := htab
      have := hwn b hb
      rw [e, ho] at this; cases this
end
end Mine.Internal
end
section
open PySem PySem.W PySem.Calls PyProof.Rows PySem.Builtin
set_option Elab.async false
set_option linter.unusedVariables false
set_option maxRecDepth 100000
namespace Mine.Internal

structure StrK (c : Cx) (fS : Addr) : Prop where
  cls : ClsK c.K c.C
  find : findIn c.K (.ref c.C) "__str__" = some (some (.ref fS))
  isf : PySem.W.isFn c.K (.ref fS) = true
  iter : findIn c.K (.ref c.C) "__iter__" = some (some (.builtin "list.__iter__"))
  emp : ∃ t, nsIn c.K mainGlobals "EMPTYSTRING" = some (some (.str ⟨#[]⟩ t))
  bmod : ∃ mg bm ob, BMod c.s₀.heap mainGlobals mg bm ob
  fn : ∀ P : Prop, (∀ fd p1 p2 p3 p4 p5 p6 q1 q2 q3 q4 q5 k kq sc r1 r2 r3 r4 o, c.K.lookup fS = some o → o.data = .func fd → codeIn c.K fd.code fd.qualname = true → fd.code = .ref c.TC →
    fd.body = .stmts [.Return (some (.Call (.Attribute (.Name "EMPTYSTRING" r1) "join" r2) [strGen (strElt p1 p2 p3 p4 p5 p6 k) q1 q2 q3 q4 q5 kq sc] [] r3)) r4] → r2.endLine = r3.line → p2.endLine = p6.line →
    fd.scope.isCoroutine = false → fd.scope.isGenerator = false → fd.scope.kind = .function → (∀ x ∈ fd.scope.names, x.2 ≠ .cell) → fd.globals = mainGlobals →
    fd.scope.names.lookup ("self" : Str) = some .local → fd.scope.names.lookup ("EMPTYSTRING" : Str) = some .globalImplicit → (∀ a, bindArgs fd ⟨[a], []⟩ = pure [(("self" : Str), a)]) →
    sc.isCoroutine = false → sc.kind = .function → (∀ y ∈ sc.names, y.2 ≠ .cell) → (∀ env, closureFor sc env = pure []) → sc.names.lookup (".0" : Str) = some NameKind.local → sc.names.lookup ("fws" : Str) = some .local → sc.names.lookup ("part" : Str) = some .local → sc.names.lookup ("EMPTYSTRING" : Str) = some .globalImplicit → P) → P

section
variable {c : Cx} {A : Around} {E : Value → Shared → Prop} {s : Shared} {fS x dd P : Addr} {od : Obj} {vs : List Value} {nn n : Nat} {ps : Array Value} {prs : List (Str × Str)}


theorem AllBare.push' {g : Array GenState} {x : GenState} (h : AllBare g) (hx : x.bare = true) : AllBare (g.push x) := h.push hx
theorem join_all {t : Tok} {a : Addr} {fp wr : List Addr} {g m : Nat} {P' : Nat → Value → Prop} {St : Nat → Shared → Prop} {Q : Value → Shared → Prop} (W : WalksS c.prog c.w A.in4 a fp wr (GenOnlyQ g) prs.length P' St) (hP : ∀ j y, P' j y → ∃ a b u, prs[j]? = some (a, b) ∧ y = .str (Txt.join ⟨#[]⟩ [a, b]) u)
    (hst : St 0 s) (hT : ∀ i s', St i s' → s'.TypeIs (.ref a) "generator") (ha : a ∈ fp) (hfp : ∀ b ∈ fp, b < s.heap.objs.size) (hok : JoinOk ⟨#[]⟩ (pairTexts prs) = true) (hsz : prs.length ≤ 1048576)
    (hQ : ∀ s' t' k, Moved wr (GenOnlyQ g) s s' → Q (.str (Txt.join ⟨#[]⟩ (pairTexts prs)) t') { s' with toks := k }) :
    wpAny (model c.prog c.w) A (call (.builtin "str.join") [.str ⟨#[]⟩ t, .ref a]) Q E s := by
  refine SC.joinGen W.in4_2 hT hst hfp ha (fun j v hv => let ⟨_, _, u, _, e⟩ := hP j v hv; ⟨_, u, e⟩) (fun s' lt hm hacc => ?_) (Nat.le_trans hsz (by decide))
  have hl : lt.map (·.1) = pairTexts prs := by
    have hlen : lt.length = prs.length := by simpa [strValues] using hacc.1
    apply List.ext_getElem?
    intro j
    by_cases hj : j < prs.length
    · have hj' : j < lt.length := hlen ▸ hj
      refine nng fun nG => ?_
      obtain ⟨a, b, u, e, hv⟩ := hP j _ (hacc.2 j (.str lt[j].1 lt[j].2) (by simp [strValues, List.getElem?_eq_getElem hj']))
      refine nG ?_
      clear nG
      injection hv with h1 _
      rw [List.getElem?_map, List.getElem?_eq_getElem hj', Option.map_some, h1]
      unfold pairTexts
      rw [List.getElem?_map, e, Option.map_some]
    · unfold pairTexts
      rw [List.getElem?_eq_none (by simpa [hlen] using Nat.le_of_not_lt hj), List.getElem?_eq_none (by simpa using Nat.le_of_not_lt hj)]
  rw [hl]
  exact ⟨hok, fun t' k => hQ s' t' k hm⟩
theorem prs_at {ms : List Addr} {h : Heap} {ρ : List Addr} : ∀ {l : List D} {vs : List Value} {prs : List (Str × Str)}, Lays (Out ms h) ρ vs l → prsOf l = some prs → PairsAt h vs prs
  | [], vs, prs, hl, e => by
    cases e; rw [hl.nilI]; exact ⟨rfl, fun j a b q => by simp at q⟩
  | d :: r, vs, prs, hl, e => by
    refine nng fun nG => ?_
    obtain ⟨v, us, rfl, l1, l2⟩ := hl.consI
    obtain ⟨dl, e1, e⟩ := bd_ok e
    obtain ⟨q, e2, e⟩ := bd_ok e
    obtain ⟨a, b, e3, e4, e⟩ := two_ok e
    obtain ⟨ps, e5, rfl⟩ := mp_ok e
    rw [dT_ok e1, un2_ok e2, dS_ok e3, dS_ok e4] at l1
    obtain ⟨T, ws, n, rfl, hp, hw⟩ := l1.tupI
    obtain ⟨x, y, rfl, hx, hy⟩ := lays2 hw
    obtain ⟨ta, rfl⟩ := hx.strI
    obtain ⟨tb, rfl⟩ := hy.strI
    obtain ⟨hlen, hat⟩ := prs_at l2 e5
    refine nG ?_
    clear nG
    refine ⟨by simp [hlen], fun j c d q => ?_⟩
    cases j with
    | zero => cases q; exact ⟨T, ta, tb, rfl, ⟨_, hp.1, rfl, _, rfl⟩⟩
    | succ j => exact hat j c d q
end
section
variable {c : Cx} {A : Around} {st : Store} {n : Nat} {fS : Addr}
theorem tab_at (h : hasTab st = true) : st[0]? = some .tab := by
  cases st with
  | nil => exact Bool.noConfusion h
  | cons m r => cases m <;> first | rfl | exact Bool.noConfusion h
theorem set_self {st : Store} {i : Nat} {m : MO} (h : st[i]? = some m) : st.set i m = st := by
  obtain ⟨hi, e⟩ := List.getElem?_eq_some_iff.mp h
  rw [← e, List.set_getElem_self]
theorem tab_in {c : Cx} {fm ρ : List Addr} {s : Shared} {m : MO} (W : Wf c fm ρ st s) (h : st[0]? = some m) : 0 < ρ.length := W.len ▸ (List.getElem?_eq_some_iff.mp h).1
theorem tab_tr {h h' : Heap} {t P : Addr} {ps : Array Value} (k1 : ∀ o, h.get? t = some o → h'.get? t = some o) (k2 : ∀ o, h.get? P = some o → h'.get? P = some o) (x : h.IsCode t P ps) (y : h.TableAt t P ps) : h'.IsCode t P ps ∧ h'.TableAt t P ps := by
  have e2 : h'.get? P = h.get? P := (k2 _ y.2).trans y.2.symm
  have e1 : h'.get? t = h.get? t := y.1.elim fun o q => q.elim fun vs q => (k1 _ q.1).trans q.1.symm
  unfold Heap.IsCode Heap.TableAt at *
  rw [e1, e2]
  exact ⟨x, y⟩
theorem sh_eq {s s' : Shared} {k : Nat} (hd : s'.drawn = s.drawn) (ho : s'.os = s.os) : ({ s' with toks := k } : Shared) = { s with heap := s'.heap, toks := k, gens := s'.gens } := by
  cases s'
  cases hd
  cases ho
  rfl
theorem strCall_E {i : Nat} {l : List D} {t : Str} (O : Ok c) (R : Rm (n + 1) A) (I : StrK c fS) (ht : hasTab st = true) (hl : st[i]? = some (.acc l)) (hs : strAcc l = some t) {fm ρ : List Addr} {s : Shared} {a : Addr} (W : Wf c fm ρ st s) (ha : ρ[i]? = some a)
    {Q : Value → Shared → Prop} (hQ : ∀ u s', 0 < s'.toks → Wf c fm ρ st s' → Adv ρ ρ s s' → Q (.str t u) s') : wpAny (model c.prog c.w) A (call (.ref fS) [.ref a]) Q (fun _ _ => False) s := by
  refine I.fn _ fun fd p1 p2 p3 p4 p5 p6 q1 q2 q3 q4 q5 k kq sc r1 r2 r3 r4 of hof hfd hcode hTC hbody hp1 hp2 hco hgen hkind hcell hglob lself lE hbind sco skind scell scl s0 sf sp sE => ?_
  refine bd_el hs fun prs e1 hs => ?_
  have hb := (if_ok hs).1
  cases (if_ok hs).2
  refine an3_el hb fun hb1 hb2 hb3 => ?_
  refine nng fun nG => ?_
  obtain ⟨us, nn, dd, od, hx, hd, had, lu⟩ := W.store _ _ _ ha hl
  have hPA := prs_at lu e1
  have ht0 := tab_at ht
  have hP := List.getElem?_eq_getElem (tab_in W ht0)
  generalize ρ[0]'(tab_in W ht0) = P at hP
  obtain ⟨ePT, ⟨oT, hoT⟩, ps, hok, htab⟩ := W.store _ _ _ hP ht0
  have hPρ : P ∈ ρ := List.mem_of_getElem? hP
  have hKP : ∀ o, c.K.lookup P ≠ some o := fun o e => by
    have := W.new P (.inr hPρ)
    rw [O.K _ _ e] at this; cases this
  obtain ⟨temp, he⟩ := I.emp
  have X := W.K O
  have hlim := W.lim O
  obtain ⟨mg, bm, ob, hBM⟩ := I.bmod
  refine nG ?_
  clear nG
  refine wpAny_call (ks_codeAny_call_defAt (fd := fd) (binds := [("self", .ref a)]) (Nat.lt_of_le_of_lt (Nat.le_add_right _ (n + 1)) (Nat.lt_trans R.2.1 (by decide))) (X _ _ hof) hfd hlim (codeRec_of X hcode) hbody (fun M A E Q q => wpAny_of_eq (hbind _) q) hcell (fun y hy => ?_) (fun h₀ hns hk => ?_) hco hgen hkind)
  · rw [List.mem_singleton.mp hy]; exact lself
  · have hX0 := X.keeps hk
    have hLs : s.heap.get? s.heap.objs.size = none := size_none _
    generalize hL : s.heap.objs.size = L at *
    have hl1 : (callEnv fd L fS).kindOf "self" = some .local := lself
    have hl2 : (callEnv fd L fS).kindOf "EMPTYSTRING" = some .globalImplicit := lE
    have hki : (callEnv fd L fS).scope.kind = .function := hkind
    have hg : (callEnv fd L fS).globals = mainGlobals := hglob
    have hcd : (callEnv fd L fS).code = .ref c.TC := hTC
    have scl' := scl (callEnv fd L fS)
    have hloc : (callEnv fd L fS).locals = L := rfl
    have Rd : (A.deeper (callEnv fd L fS)).handled = none ∧ (A.deeper (callEnv fd L fS)).depth < recursionLimit := by
      refine ⟨R.1, ?_⟩
      have := R.2.1
      show A.depth + 1 < recursionLimit
      have e : recursionLimit = 1000 := rfl
      lia
    generalize A.deeper (callEnv fd L fS) = A1 at *
    generalize callEnv fd L fS = env at *
    subst hloc
    have ms : (fun y => List.lookup y (List.reverse [(("self" : Str), Value.ref a)])) "self" = some (.ref a) := by
      show List.lookup ("self" : Str) [(("self" : Str), Value.ref a)] = _
      rw [List.lookup_cons, show (("self" : Str) == "self") = true by decide]
    generalize (fun y => List.lookup y (List.reverse [(("self" : Str), Value.ref a)])) = m at hns ms
    refine _root_.PySem.wpAt_of_wpAny (wpAny_execs_cons (wpAny_Return_some ?_))
    refine wpAny_with_toks (n := 1) (Nat.le_add_left _ _) ?_
    refine meth_call rfl rfl (by simp) hp1 (emp_name (s := { s with heap := h₀, toks := _ }) hX0 he hg hki hl2 ?_)
    with_reducible refine GM.join ?_
    refine callWith_builtin (plain_args (l := [strGen _ _ _ _ _ _ _ _]) rfl) (call_args (l := [strGen _ _ _ _ _ _ _ _]) rfl (wpAny_items_cons ?_))
    refine gen_make (fS := fS) (s := { s with heap := h₀, toks := _ }) hX0 I.cls I.iter he (hlim.keeps hk) ⟨mg, bm, ob, (hBM.keeps W.base).keeps hk⟩ hg hki hl1 hcd (hok.keeps hk) (htab.keeps hk) Rd.1 Rd.2 hns ms sco skind scell scl' s0 sf sp sE hp2 (hk _ _ hx) (hk _ _ hd.1) (prs := prs) ⟨hPA.1, fun j a b e => ?_⟩ (fun p hp => List.all_eq_true.mp hb1 p hp) hKP ?_
    · refine nng fun nG => ?_
      obtain ⟨T, ta, tb, e1, e2⟩ := hPA.2 j a b e
      refine nG ?_
      clear nG
      exact ⟨T, ta, tb, e1, Heap.IsTuple.at e2 fun o e => hk _ o e⟩
    · intro g h' tk gs fp wr P' St Wk hP' hSt hT hg' hfp hwr hbare hkeep ⟨ps', hok', htab'⟩ hwP
      refine wpAny_items_nil ?_
      refine join_all (m := 0) Wk hP' hSt hT hg' hfp hb3 (Nat.le_of_ble_eq_true hb2) fun s' t' k hm hpos => ?_
      have hkeep' : ∀ b o, b ≠ P → s.heap.get? b = some o → s'.heap.get? b = some o := fun b o hb e => hm.heap b o (fun q => by
        have := hwr b q
        rw [show h₀.get? b = some o from hk b o e] at this; cases this) (hkeep b o hb (hk b o e))
      have hPw : ∀ o, h'.get? P = some o → s'.heap.get? P = some o := fun o e => hm.heap P o (fun q => (hwP P q).1 rfl) e
      have hTw : ∀ o, h'.get? c.TC = some o → s'.heap.get? c.TC = some o := fun o e => hm.heap c.TC o (fun q => (hwP c.TC q).2 rfl) e
      have hTP : c.TC ≠ P := fun q => hoT.2 (List.mem_append_right _ (q ▸ hPρ))
      have A1 : Adv ρ ρ s { s with heap := s'.heap, toks := k } := ⟨fun b o hb e => hkeep' b o (fun q => hb (q ▸ hPρ)) e, fun _ h n => absurd h n, fun _ _ e => e⟩
      have hIT := tab_tr hTw hPw hok' htab'
      have hMo : MoAt c (fm ++ ρ) ρ s'.heap P .tab := ⟨ePT, ⟨oT, (A1.go fm).out hoT⟩, ps', hIT.1, hIT.2⟩
      have W1 := set_self ht0 ▸ (W.upd (s' := { s with heap := s'.heap, toks := k }) hP ⟨_, _, rfl⟩ hkeep' ⟨_, hPw _ htab'.2⟩ hMo).1
      have hgen : AllBare s.gens → AllBare s'.gens := fun x => (x.push hbare).movedS (s := { s with gens := s.gens.push gs, toks := tk, heap := h' }) hm
      have W2 : Wf c fm ρ st { s' with toks := k } := W1.goG ⟨s'.heap, k, s'.gens, sh_eq hm.drawn hm.os, hgen⟩ ⟨fun b o _ e => e, fun q hq hn => absurd hq hn⟩ (fun _ _ _ e => e) (fun q hq => W1.alive q (.inl hq)) W1.apart
      exact hQ t' { s' with toks := k } hpos W2 ⟨A1.keep, A1.news, A1.pre⟩
end
end Mine.Internal
end
section
open PySem PySem.W PySem.Calls PyProof.Rows PySem.Builtin
set_option Elab.async false
set_option linter.unusedVariables false
set_option maxRecDepth 100000
namespace Mine.Internal
section
variable {c : Cx} {A : Around} {kd : Str → Option NameKind} {sc : List (Str × Nat)} {σ : Vars} {st st₁ : Store} {x : D} {n : Nat} {pos : Pos} {fS : Addr}
theorem rm_in2 (R : Rm (n + 2) A) : Rm (n + 1) A.in1.in1 := by
  refine ⟨R.1, ?_, ?_⟩
  · have := R.2.1; show A.depth + (n + 1) < 900; lia
  · have := R.2.2; show A.units + 1 + 1 + 10 * (n + 1) < 9000; lia
theorem p_accStr {o : Expr} {p : Pos} {q : Nat × List D} {t : Str} (O : Ok c) (R : Rm (n + 2) A) (I : StrK c fS) (hk : kd "str" = some .globalImplicit) (hg : globIn c.K "str" = some (.type "str")) (ho : nsl o = true)
    (h : EvE c A kd sc o σ st x st₁) (hq : getAcc st₁ x = some q) (ht : hasTab st₁ = true) (hs : strAcc q.2 = some t) : EvP c A kd sc (.Call (.Name "str" p) [o] [] pos) σ st (.str t) st₁ := by
  intro env fm ρ s F W V Q hQ
  have hl : [o].all nsl = true := by simp [ho]
  obtain ⟨e1, e2⟩ := getAcc_ok hq
  refine Call_ (glob_name O F W hk hg (by decide) (callWith_fn (f := .strI) hl (wpAny_items_cons (h env fm ρ s F W V _ fun v s1 ρ1 W1 A1 l => wpAny_items_nil ?_) (nsl_star ho _ _))))
  rw [e1] at l
  refine nng fun nG => ?_
  obtain ⟨a, rfl, ha⟩ := l.refI
  obtain ⟨us, nn, dd, od, hx, hd, had, lu⟩ := W1.store _ _ _ ha e2
  refine nG ?_
  clear nG
  have R2 := rm_in2 R
  refine kso_call (by have := R2.2.2; have e : cLine = 9900 := rfl; lia) (W1.K O) (acc_inst hx hd.1) I.find I.isf (strCall_E O R2 I ht e2 hs W1 ha fun u s2 hp W2 A2 => ?_)
  exact hQ _ s2 ρ1 hp W2 (A1.trans A2) (.str _ _)
end
end Mine.Internal
end
section
open PySem PySem.W PySem.Calls PyProof.Rows PySem.Builtin
set_option Elab.async false
set_option linter.unusedVariables false
set_option maxRecDepth 100000
namespace Mine.Internal
section
variable {c : Cx} {A : Around} {kd : Str → Option NameKind} {sc : List (Str × Nat)} {σ : Vars} {st st₁ st₂ : Store} {x y d : D} {n : Nat} {pos : Pos}
theorem map_lst (vs : List Value) (n : Nat) (v : Value) : ∃ n', (lstObj vs n).mapSeq (·.push v) = lstObj (vs ++ [v]) n' := by
  obtain ⟨n', e⟩ := Obj.data_mapSeq (o := lstObj vs n) rfl (·.push v)
  refine ⟨n', ?_⟩
  unfold Obj.mapSeq at e ⊢
  simp only at e ⊢
  rw [e]; simp [lstObj]
theorem e_mlAppend {o a : Expr} {apos : Pos} {i : Nat} {l : List D} (ho : ncall o = true) (hn : nsl a = true) (hp : apos.endLine = pos.line)
    (h : EvE c A kd sc o σ st (.ref i) st₁) (he : EvE c A kd sc a σ st₁ y st₂) (hm1 : ∃ es, st₁[i]? = some (.ml es)) (hm : st₂[i]? = some (.ml l)) (hlen : l.length ≤ lid) : EvE c A kd sc (.Call (.Attribute o "append" apos) [a] [] pos) σ st .none (st₂.set i (.ml (l ++ [y]))) := by
  intro env fm ρ s F W V Q hQ
  obtain ⟨es, hm1⟩ := hm1
  refine meth_call ho (by simp [hn]) (by simp) hp (h env fm ρ s F W V _ fun ov s1 ρ1 W1 A1 lo => ?_)
  refine nng fun nG => ?_
  obtain ⟨x, rfl, ha⟩ := lo.refI
  obtain ⟨us, nn, hx, lu⟩ := W1.store _ _ _ ha hm1
  refine nG ?_
  clear nG
  refine getMethod_list_of PySem.F.slot_list_append PySem.F.type_list_append (lst_isList hx) ⟨_, hx, rfl⟩ ?_
  refine callWith_builtin (plain_args (l := [a]) (by simp [hn])) (call_args (l := [a]) (by simp [hn]) (wpAny_items_cons (he env fm ρ1 s1 (F.adv W A1) W1 (V.adv F W A1) _ fun va s2 ρ2 W2 A2 la => wpAny_items_nil ?_) (nsl_star hn _ _)))
  have ha2 := A2.pre _ _ ha
  refine nng fun nG => ?_
  obtain ⟨us2, nn2, hx2, lu2⟩ := W2.store _ _ _ ha2 hm
  refine nG ?_
  clear nG
  refine wpAny_call_entry PySem.F.slot_list_append (lst_isList hx2).typeIs PySem.F.entry_list_append ?_ (PySem.F.args_list_append_2 _ _)
  show wpAny _ _ (updateSeq x (·.push va) >>= _) _ _ _
  refine wpAny_bind (wpAny_updateSeq hx2 rfl ?_ (by rw [List.size_toArray, lu2.length]; exact lid_size hlen) (by rw [Array.size_push, List.size_toArray, lu2.length]; exact Nat.succ_le_succ (lid_size hlen)))
  refine wpAny_pure ⟨_, rfl, ?_⟩
  obtain ⟨n', e9⟩ := map_lst us2 nn2 va
  have hx3 : (s2.heap.update x (Obj.mapSeq (·.push va))).get? x = some (lstObj (us2 ++ [va]) n') := by
    rw [Heap.get?_update_self _ hx2 (by rw [e9]; rfl), e9]
  have k3 : ∀ b o, b ≠ x → s2.heap.get? b = some o → (s2.heap.update x (Obj.mapSeq (·.push va))).get? b = some o := fun b o hb e => (Heap.get?_update_ne _ _ _ _ hb).trans e
  have A3 : Adv ρ2 ρ2 s2 { s2 with heap := s2.heap.update x (Obj.mapSeq (·.push va)) } := ⟨fun b o hb e => k3 b o (fun q => hb (q ▸ List.mem_of_getElem? ha2)) e, fun _ h n => absurd h n, fun _ _ e => e⟩
  obtain ⟨W3, _⟩ := W2.upd (s' := { s2 with heap := s2.heap.update x (Obj.mapSeq (·.push va)) }) (mo := .ml (l ++ [y])) ha2 ⟨_, s2.toks, rfl⟩ k3 ⟨_, hx3⟩ ⟨_, n', hx3, (A3.lays lu2).append (.one (A3.lay la))⟩
  exact hQ _ _ ρ2 W3 (A1.trans (A2.trans A3)) .none
end
end Mine.Internal
end
section
open PySem PySem.W PySem.Calls PyProof.Rows PySem.Builtin
set_option Elab.async false
set_option linter.unusedVariables false
namespace Mine.Internal

noncomputable def dNameP (e : PySem.Expr) : Option (Str × Pos) := PySem.Expr.casesOn (motive_1 := fun _ => Option (Str × Pos)) e (fun _ _ _ => none) (fun _ _ _ => none) (fun _ _ _ _ => none) (fun _ _ _ => none) (fun _ _ _ _ => none) (fun _ _ _ _ => none) (fun _ _ _ => none) (fun _ _ _ => none) (fun _ _ _ _ => none) (fun _ _ _ _ => none) (fun _ _ _ _ _ => none) (fun _ _ _ _ => none) (fun _ _ => none) (fun _ _ => none) (fun _ _ => none) (fun _ _ _ _ => none) (fun _ _ _ _ => none) (fun _ _ _ _ => none) (fun _ _ => none) (fun _ _ _ => none) (fun _ _ _ => none) (fun _ _ _ => none) (fun _ _ => none) (fun a0 a1 => some (a0, a1)) (fun _ _ => none) (fun _ _ _ => none) (fun _ _ _ _ => none)
theorem dNameP_ok {e : PySem.Expr} {q : Str × Pos} : dNameP e = some q → e = .Name q.1 q.2 :=
  PySem.Expr.casesOn (motive_1 := fun e => dNameP e = some q → e = .Name q.1 q.2) e (fun _ _ _ h => bad h) (fun _ _ _ h => bad h) (fun _ _ _ _ h => bad h) (fun _ _ _ h => bad h) (fun _ _ _ _ h => bad h) (fun _ _ _ _ h => bad h) (fun _ _ _ h => bad h) (fun _ _ _ h => bad h) (fun _ _ _ _ h => bad h) (fun _ _ _ _ h => bad h) (fun _ _ _ _ _ h => bad h) (fun _ _ _ _ h => bad h) (fun _ _ h => bad h) (fun _ _ h => bad h) (fun _ _ h => bad h) (fun _ _ _ _ h => bad h) (fun _ _ _ _ h => bad h) (fun _ _ _ _ h => bad h) (fun _ _ h => bad h) (fun _ _ _ h => bad h) (fun _ _ _ h => bad h) (fun _ _ _ h => bad h) (fun _ _ h => bad h) (fun _ _ h => by cases h; rfl) (fun _ _ h => bad h) (fun _ _ _ h => bad h) (fun _ _ _ _ h => bad h)
noncomputable def dCst (e : PySem.Expr) : Option (Const) := PySem.Expr.casesOn (motive_1 := fun _ => Option (Const)) e (fun _ _ _ => none) (fun _ _ _ => none) (fun _ _ _ _ => none) (fun _ _ _ => none) (fun _ _ _ _ => none) (fun _ _ _ _ => none) (fun _ _ _ => none) (fun _ _ _ => none) (fun _ _ _ _ => none) (fun _ _ _ _ => none) (fun _ _ _ _ _ => none) (fun _ _ _ _ => none) (fun _ _ => none) (fun _ _ => none) (fun _ _ => none) (fun _ _ _ _ => none) (fun _ _ _ _ => none) (fun _ _ _ _ => none) (fun _ _ => none) (fun a0 _ _ => some a0) (fun _ _ _ => none) (fun _ _ _ => none) (fun _ _ => none) (fun _ _ => none) (fun _ _ => none) (fun _ _ _ => none) (fun _ _ _ _ => none)
theorem dCst_ok {e : PySem.Expr} {q : Const} : dCst e = some q → ∃ b1 b2, e = .Constant q b1 b2 :=
  PySem.Expr.casesOn (motive_1 := fun e => dCst e = some q → ∃ b1 b2, e = .Constant q b1 b2) e (fun _ _ _ h => bad h) (fun _ _ _ h => bad h) (fun _ _ _ _ h => bad h) (fun _ _ _ h => bad h) (fun _ _ _ _ h => bad h) (fun _ _ _ _ h => bad h) (fun _ _ _ h => bad h) (fun _ _ _ h => bad h) (fun _ _ _ _ h => bad h) (fun _ _ _ _ h => bad h) (fun _ _ _ _ _ h => bad h) (fun _ _ _ _ h => bad h) (fun _ _ h => bad h) (fun _ _ h => bad h) (fun _ _ h => bad h) (fun _ _ _ _ h => bad h) (fun _ _ _ _ h => bad h) (fun _ _ _ _ h => bad h) (fun _ _ h => bad h) (fun _ b1 b2 h => ⟨b1, b2, by cases h; rfl⟩) (fun _ _ _ h => bad h) (fun _ _ _ h => bad h) (fun _ _ h => bad h) (fun _ _ h => bad h) (fun _ _ h => bad h) (fun _ _ _ h => bad h) (fun _ _ _ _ h => bad h)
noncomputable def dBin (e : PySem.Expr) : Option (PySem.Expr × Operator × PySem.Expr) := PySem.Expr.casesOn (motive_1 := fun _ => Option (PySem.Expr × Operator × PySem.Expr)) e (fun _ _ _ => none) (fun _ _ _ => none) (fun a0 a1 a2 _ => some (a0, a1, a2)) (fun _ _ _ => none) (fun _ _ _ _ => none) (fun _ _ _ _ => none) (fun _ _ _ => none) (fun _ _ _ => none) (fun _ _ _ _ => none) (fun _ _ _ _ => none) (fun _ _ _ _ _ => none) (fun _ _ _ _ => none) (fun _ _ => none) (fun _ _ => none) (fun _ _ => none) (fun _ _ _ _ => none) (fun _ _ _ _ => none) (fun _ _ _ _ => none) (fun _ _ => none) (fun _ _ _ => none) (fun _ _ _ => none) (fun _ _ _ => none) (fun _ _ => none) (fun _ _ => none) (fun _ _ => none) (fun _ _ _ => none) (fun _ _ _ _ => none)
theorem dBin_ok {e : PySem.Expr} {q : PySem.Expr × Operator × PySem.Expr} : dBin e = some q → ∃ b3, e = .BinOp q.1 q.2.1 q.2.2 b3 :=
  PySem.Expr.casesOn (motive_1 := fun e => dBin e = some q → ∃ b3, e = .BinOp q.1 q.2.1 q.2.2 b3) e (fun _ _ _ h => bad h) (fun _ _ _ h => bad h) (fun _ _ _ b3 h => ⟨b3, by cases h; rfl⟩) (fun _ _ _ h => bad h) (fun _ _ _ _ h => bad h) (fun _ _ _ _ h => bad h) (fun _ _ _ h => bad h) (fun _ _ _ h => bad h) (fun _ _ _ _ h => bad h) (fun _ _ _ _ h => bad h) (fun _ _ _ _ _ h => bad h) (fun _ _ _ _ h => bad h) (fun _ _ h => bad h) (fun _ _ h => bad h) (fun _ _ h => bad h) (fun _ _ _ _ h => bad h) (fun _ _ _ _ h => bad h) (fun _ _ _ _ h => bad h) (fun _ _ h => bad h) (fun _ _ _ h => bad h) (fun _ _ _ h => bad h) (fun _ _ _ h => bad h) (fun _ _ h => bad h) (fun _ _ h => bad h) (fun _ _ h => bad h) (fun _ _ _ h => bad h) (fun _ _ _ _ h => bad h)
noncomputable def dUn (e : PySem.Expr) : Option (UnaryOp × PySem.Expr) := PySem.Expr.casesOn (motive_1 := fun _ => Option (UnaryOp × PySem.Expr)) e (fun _ _ _ => none) (fun _ _ _ => none) (fun _ _ _ _ => none) (fun a0 a1 _ => some (a0, a1)) (fun _ _ _ _ => none) (fun _ _ _ _ => none) (fun _ _ _ => none) (fun _ _ _ => none) (fun _ _ _ _ => none) (fun _ _ _ _ => none) (fun _ _ _ _ _ => none) (fun _ _ _ _ => none) (fun _ _ => none) (fun _ _ => none) (fun _ _ => none) (fun _ _ _ _ => none) (fun _ _ _ _ => none) (fun _ _ _ _ => none) (fun _ _ => none) (fun _ _ _ => none) (fun _ _ _ => none) (fun _ _ _ => none) (fun _ _ => none) (fun _ _ => none) (fun _ _ => none) (fun _ _ _ => none) (fun _ _ _ _ => none)
theorem dUn_ok {e : PySem.Expr} {q : UnaryOp × PySem.Expr} : dUn e = some q → ∃ b2, e = .UnaryOp q.1 q.2 b2 :=
  PySem.Expr.casesOn (motive_1 := fun e => dUn e = some q → ∃ b2, e = .UnaryOp q.1 q.2 b2) e (fun _ _ _ h => bad h) (fun _ _ _ h => bad h) (fun _ _ _ _ h => bad h) (fun _ _ b2 h => ⟨b2, by cases h; rfl⟩) (fun _ _ _ _ h => bad h) (fun _ _ _ _ h => bad h) (fun _ _ _ h => bad h) (fun _ _ _ h => bad h) (fun _ _ _ _ h => bad h) (fun _ _ _ _ h => bad h) (fun _ _ _ _ _ h => bad h) (fun _ _ _ _ h => bad h) (fun _ _ h => bad h) (fun _ _ h => bad h) (fun _ _ h => bad h) (fun _ _ _ _ h => bad h) (fun _ _ _ _ h => bad h) (fun _ _ _ _ h => bad h) (fun _ _ h => bad h) (fun _ _ _ h => bad h) (fun _ _ _ h => bad h) (fun _ _ _ h => bad h) (fun _ _ h => bad h) (fun _ _ h => bad h) (fun _ _ h => bad h) (fun _ _ _ h => bad h) (fun _ _ _ _ h => bad h)
noncomputable def dCmp (e : PySem.Expr) : Option (PySem.Expr × List CmpOp × List PySem.Expr) := PySem.Expr.casesOn (motive_1 := fun _ => Option (PySem.Expr × List CmpOp × List PySem.Expr)) e (fun _ _ _ => none) (fun _ _ _ => none) (fun _ _ _ _ => none) (fun _ _ _ => none) (fun _ _ _ _ => none) (fun _ _ _ _ => none) (fun _ _ _ => none) (fun _ _ _ => none) (fun _ _ _ _ => none) (fun _ _ _ _ => none) (fun _ _ _ _ _ => none) (fun _ _ _ _ => none) (fun _ _ => none) (fun _ _ => none) (fun _ _ => none) (fun a0 a1 a2 _ => some (a0, a1, a2)) (fun _ _ _ _ => none) (fun _ _ _ _ => none) (fun _ _ => none) (fun _ _ _ => none) (fun _ _ _ => none) (fun _ _ _ => none) (fun _ _ => none) (fun _ _ => none) (fun _ _ => none) (fun _ _ _ => none) (fun _ _ _ _ => none)
theorem dCmp_ok {e : PySem.Expr} {q : PySem.Expr × List CmpOp × List PySem.Expr} : dCmp e = some q → ∃ b3, e = .Compare q.1 q.2.1 q.2.2 b3 :=
  PySem.Expr.casesOn (motive_1 := fun e => dCmp e = some q → ∃ b3, e = .Compare q.1 q.2.1 q.2.2 b3) e (fun _ _ _ h => bad h) (fun _ _ _ h => bad h) (fun _ _ _ _ h => bad h) (fun _ _ _ h => bad h) (fun _ _ _ _ h => bad h) (fun _ _ _ _ h => bad h) (fun _ _ _ h => bad h) (fun _ _ _ h => bad h) (fun _ _ _ _ h => bad h) (fun _ _ _ _ h => bad h) (fun _ _ _ _ _ h => bad h) (fun _ _ _ _ h => bad h) (fun _ _ h => bad h) (fun _ _ h => bad h) (fun _ _ h => bad h) (fun _ _ _ b3 h => ⟨b3, by cases h; rfl⟩) (fun _ _ _ _ h => bad h) (fun _ _ _ _ h => bad h) (fun _ _ h => bad h) (fun _ _ _ h => bad h) (fun _ _ _ h => bad h) (fun _ _ _ h => bad h) (fun _ _ h => bad h) (fun _ _ h => bad h) (fun _ _ h => bad h) (fun _ _ _ h => bad h) (fun _ _ _ _ h => bad h)
noncomputable def dIte (e : PySem.Expr) : Option (PySem.Expr × PySem.Expr × PySem.Expr) := PySem.Expr.casesOn (motive_1 := fun _ => Option (PySem.Expr × PySem.Expr × PySem.Expr)) e (fun _ _ _ => none) (fun _ _ _ => none) (fun _ _ _ _ => none) (fun _ _ _ => none) (fun _ _ _ _ => none) (fun a0 a1 a2 _ => some (a0, a1, a2)) (fun _ _ _ => none) (fun _ _ _ => none) (fun _ _ _ _ => none) (fun _ _ _ _ => none) (fun _ _ _ _ _ => none) (fun _ _ _ _ => none) (fun _ _ => none) (fun _ _ => none) (fun _ _ => none) (fun _ _ _ _ => none) (fun _ _ _ _ => none) (fun _ _ _ _ => none) (fun _ _ => none) (fun _ _ _ => none) (fun _ _ _ => none) (fun _ _ _ => none) (fun _ _ => none) (fun _ _ => none) (fun _ _ => none) (fun _ _ _ => none) (fun _ _ _ _ => none)
theorem dIte_ok {e : PySem.Expr} {q : PySem.Expr × PySem.Expr × PySem.Expr} : dIte e = some q → ∃ b3, e = .IfExp q.1 q.2.1 q.2.2 b3 :=
  PySem.Expr.casesOn (motive_1 := fun e => dIte e = some q → ∃ b3, e = .IfExp q.1 q.2.1 q.2.2 b3) e (fun _ _ _ h => bad h) (fun _ _ _ h => bad h) (fun _ _ _ _ h => bad h) (fun _ _ _ h => bad h) (fun _ _ _ _ h => bad h) (fun _ _ _ b3 h => ⟨b3, by cases h; rfl⟩) (fun _ _ _ h => bad h) (fun _ _ _ h => bad h) (fun _ _ _ _ h => bad h) (fun _ _ _ _ h => bad h) (fun _ _ _ _ _ h => bad h) (fun _ _ _ _ h => bad h) (fun _ _ h => bad h) (fun _ _ h => bad h) (fun _ _ h => bad h) (fun _ _ _ _ h => bad h) (fun _ _ _ _ h => bad h) (fun _ _ _ _ h => bad h) (fun _ _ h => bad h) (fun _ _ _ h => bad h) (fun _ _ _ h => bad h) (fun _ _ _ h => bad h) (fun _ _ h => bad h) (fun _ _ h => bad h) (fun _ _ h => bad h) (fun _ _ _ h => bad h) (fun _ _ _ _ h => bad h)
noncomputable def dSub (e : PySem.Expr) : Option (PySem.Expr × PySem.Expr) := PySem.Expr.casesOn (motive_1 := fun _ => Option (PySem.Expr × PySem.Expr)) e (fun _ _ _ => none) (fun _ _ _ => none) (fun _ _ _ _ => none) (fun _ _ _ => none) (fun _ _ _ _ => none) (fun _ _ _ _ => none) (fun _ _ _ => none) (fun _ _ _ => none) (fun _ _ _ _ => none) (fun _ _ _ _ => none) (fun _ _ _ _ _ => none) (fun _ _ _ _ => none) (fun _ _ => none) (fun _ _ => none) (fun _ _ => none) (fun _ _ _ _ => none) (fun _ _ _ _ => none) (fun _ _ _ _ => none) (fun _ _ => none) (fun _ _ _ => none) (fun _ _ _ => none) (fun a0 a1 _ => some (a0, a1)) (fun _ _ => none) (fun _ _ => none) (fun _ _ => none) (fun _ _ _ => none) (fun _ _ _ _ => none)
theorem dSub_ok {e : PySem.Expr} {q : PySem.Expr × PySem.Expr} : dSub e = some q → ∃ b2, e = .Subscript q.1 q.2 b2 :=
  PySem.Expr.casesOn (motive_1 := fun e => dSub e = some q → ∃ b2, e = .Subscript q.1 q.2 b2) e (fun _ _ _ h => bad h) (fun _ _ _ h => bad h) (fun _ _ _ _ h => bad h) (fun _ _ _ h => bad h) (fun _ _ _ _ h => bad h) (fun _ _ _ _ h => bad h) (fun _ _ _ h => bad h) (fun _ _ _ h => bad h) (fun _ _ _ _ h => bad h) (fun _ _ _ _ h => bad h) (fun _ _ _ _ _ h => bad h) (fun _ _ _ _ h => bad h) (fun _ _ h => bad h) (fun _ _ h => bad h) (fun _ _ h => bad h) (fun _ _ _ _ h => bad h) (fun _ _ _ _ h => bad h) (fun _ _ _ _ h => bad h) (fun _ _ h => bad h) (fun _ _ _ h => bad h) (fun _ _ _ h => bad h) (fun _ _ b2 h => ⟨b2, by cases h; rfl⟩) (fun _ _ h => bad h) (fun _ _ h => bad h) (fun _ _ h => bad h) (fun _ _ _ h => bad h) (fun _ _ _ _ h => bad h)
noncomputable def dSlc (e : PySem.Expr) : Option (Option PySem.Expr × Option PySem.Expr × Option PySem.Expr) := PySem.Expr.casesOn (motive_1 := fun _ => Option (Option PySem.Expr × Option PySem.Expr × Option PySem.Expr)) e (fun _ _ _ => none) (fun _ _ _ => none) (fun _ _ _ _ => none) (fun _ _ _ => none) (fun _ _ _ _ => none) (fun _ _ _ _ => none) (fun _ _ _ => none) (fun _ _ _ => none) (fun _ _ _ _ => none) (fun _ _ _ _ => none) (fun _ _ _ _ _ => none) (fun _ _ _ _ => none) (fun _ _ => none) (fun _ _ => none) (fun _ _ => none) (fun _ _ _ _ => none) (fun _ _ _ _ => none) (fun _ _ _ _ => none) (fun _ _ => none) (fun _ _ _ => none) (fun _ _ _ => none) (fun _ _ _ => none) (fun _ _ => none) (fun _ _ => none) (fun _ _ => none) (fun _ _ _ => none) (fun a0 a1 a2 _ => some (a0, a1, a2))
theorem dSlc_ok {e : PySem.Expr} {q : Option PySem.Expr × Option PySem.Expr × Option PySem.Expr} : dSlc e = some q → ∃ b3, e = .Slice q.1 q.2.1 q.2.2 b3 :=
  PySem.Expr.casesOn (motive_1 := fun e => dSlc e = some q → ∃ b3, e = .Slice q.1 q.2.1 q.2.2 b3) e (fun _ _ _ h => bad h) (fun _ _ _ h => bad h) (fun _ _ _ _ h => bad h) (fun _ _ _ h => bad h) (fun _ _ _ _ h => bad h) (fun _ _ _ _ h => bad h) (fun _ _ _ h => bad h) (fun _ _ _ h => bad h) (fun _ _ _ _ h => bad h) (fun _ _ _ _ h => bad h) (fun _ _ _ _ _ h => bad h) (fun _ _ _ _ h => bad h) (fun _ _ h => bad h) (fun _ _ h => bad h) (fun _ _ h => bad h) (fun _ _ _ _ h => bad h) (fun _ _ _ _ h => bad h) (fun _ _ _ _ h => bad h) (fun _ _ h => bad h) (fun _ _ _ h => bad h) (fun _ _ _ h => bad h) (fun _ _ _ h => bad h) (fun _ _ h => bad h) (fun _ _ h => bad h) (fun _ _ h => bad h) (fun _ _ _ h => bad h) (fun _ _ _ b3 h => ⟨b3, by cases h; rfl⟩)
noncomputable def dTup (e : PySem.Expr) : Option (List PySem.Expr) := PySem.Expr.casesOn (motive_1 := fun _ => Option (List PySem.Expr)) e (fun _ _ _ => none) (fun _ _ _ => none) (fun _ _ _ _ => none) (fun _ _ _ => none) (fun _ _ _ _ => none) (fun _ _ _ _ => none) (fun _ _ _ => none) (fun _ _ _ => none) (fun _ _ _ _ => none) (fun _ _ _ _ => none) (fun _ _ _ _ _ => none) (fun _ _ _ _ => none) (fun _ _ => none) (fun _ _ => none) (fun _ _ => none) (fun _ _ _ _ => none) (fun _ _ _ _ => none) (fun _ _ _ _ => none) (fun _ _ => none) (fun _ _ _ => none) (fun _ _ _ => none) (fun _ _ _ => none) (fun _ _ => none) (fun _ _ => none) (fun _ _ => none) (fun a0 _ _ => some a0) (fun _ _ _ _ => none)
theorem dTup_ok {e : PySem.Expr} {q : List PySem.Expr} : dTup e = some q → ∃ b1 b2, e = .Tuple q b1 b2 :=
  PySem.Expr.casesOn (motive_1 := fun e => dTup e = some q → ∃ b1 b2, e = .Tuple q b1 b2) e (fun _ _ _ h => bad h) (fun _ _ _ h => bad h) (fun _ _ _ _ h => bad h) (fun _ _ _ h => bad h) (fun _ _ _ _ h => bad h) (fun _ _ _ _ h => bad h) (fun _ _ _ h => bad h) (fun _ _ _ h => bad h) (fun _ _ _ _ h => bad h) (fun _ _ _ _ h => bad h) (fun _ _ _ _ _ h => bad h) (fun _ _ _ _ h => bad h) (fun _ _ h => bad h) (fun _ _ h => bad h) (fun _ _ h => bad h) (fun _ _ _ _ h => bad h) (fun _ _ _ _ h => bad h) (fun _ _ _ _ h => bad h) (fun _ _ h => bad h) (fun _ _ _ h => bad h) (fun _ _ _ h => bad h) (fun _ _ _ h => bad h) (fun _ _ h => bad h) (fun _ _ h => bad h) (fun _ _ h => bad h) (fun _ b1 b2 h => ⟨b1, b2, by cases h; rfl⟩) (fun _ _ _ _ h => bad h)
noncomputable def dLst (e : PySem.Expr) : Option (List PySem.Expr) := PySem.Expr.casesOn (motive_1 := fun _ => Option (List PySem.Expr)) e (fun _ _ _ => none) (fun _ _ _ => none) (fun _ _ _ _ => none) (fun _ _ _ => none) (fun _ _ _ _ => none) (fun _ _ _ _ => none) (fun _ _ _ => none) (fun _ _ _ => none) (fun _ _ _ _ => none) (fun _ _ _ _ => none) (fun _ _ _ _ _ => none) (fun _ _ _ _ => none) (fun _ _ => none) (fun _ _ => none) (fun _ _ => none) (fun _ _ _ _ => none) (fun _ _ _ _ => none) (fun _ _ _ _ => none) (fun _ _ => none) (fun _ _ _ => none) (fun _ _ _ => none) (fun _ _ _ => none) (fun _ _ => none) (fun _ _ => none) (fun a0 _ => some a0) (fun _ _ _ => none) (fun _ _ _ _ => none)
theorem dLst_ok {e : PySem.Expr} {q : List PySem.Expr} : dLst e = some q → ∃ b1, e = .List q b1 :=
  PySem.Expr.casesOn (motive_1 := fun e => dLst e = some q → ∃ b1, e = .List q b1) e (fun _ _ _ h => bad h) (fun _ _ _ h => bad h) (fun _ _ _ _ h => bad h) (fun _ _ _ h => bad h) (fun _ _ _ _ h => bad h) (fun _ _ _ _ h => bad h) (fun _ _ _ h => bad h) (fun _ _ _ h => bad h) (fun _ _ _ _ h => bad h) (fun _ _ _ _ h => bad h) (fun _ _ _ _ _ h => bad h) (fun _ _ _ _ h => bad h) (fun _ _ h => bad h) (fun _ _ h => bad h) (fun _ _ h => bad h) (fun _ _ _ _ h => bad h) (fun _ _ _ _ h => bad h) (fun _ _ _ _ h => bad h) (fun _ _ h => bad h) (fun _ _ _ h => bad h) (fun _ _ _ h => bad h) (fun _ _ _ h => bad h) (fun _ _ h => bad h) (fun _ _ h => bad h) (fun _ b1 h => ⟨b1, by cases h; rfl⟩) (fun _ _ _ h => bad h) (fun _ _ _ _ h => bad h)
noncomputable def dLc (e : PySem.Expr) : Option (PySem.Expr × List Comprehension × Scope × Pos) := PySem.Expr.casesOn (motive_1 := fun _ => Option (PySem.Expr × List Comprehension × Scope × Pos)) e (fun _ _ _ => none) (fun _ _ _ => none) (fun _ _ _ _ => none) (fun _ _ _ => none) (fun _ _ _ _ => none) (fun _ _ _ _ => none) (fun _ _ _ => none) (fun _ _ _ => none) (fun a0 a1 a2 a3 => some (a0, a1, a2, a3)) (fun _ _ _ _ => none) (fun _ _ _ _ _ => none) (fun _ _ _ _ => none) (fun _ _ => none) (fun _ _ => none) (fun _ _ => none) (fun _ _ _ _ => none) (fun _ _ _ _ => none) (fun _ _ _ _ => none) (fun _ _ => none) (fun _ _ _ => none) (fun _ _ _ => none) (fun _ _ _ => none) (fun _ _ => none) (fun _ _ => none) (fun _ _ => none) (fun _ _ _ => none) (fun _ _ _ _ => none)
theorem dLc_ok {e : PySem.Expr} {q : PySem.Expr × List Comprehension × Scope × Pos} : dLc e = some q → e = .ListComp q.1 q.2.1 q.2.2.1 q.2.2.2 :=
  PySem.Expr.casesOn (motive_1 := fun e => dLc e = some q → e = .ListComp q.1 q.2.1 q.2.2.1 q.2.2.2) e (fun _ _ _ h => bad h) (fun _ _ _ h => bad h) (fun _ _ _ _ h => bad h) (fun _ _ _ h => bad h) (fun _ _ _ _ h => bad h) (fun _ _ _ _ h => bad h) (fun _ _ _ h => bad h) (fun _ _ _ h => bad h) (fun _ _ _ _ h => by cases h; rfl) (fun _ _ _ _ h => bad h) (fun _ _ _ _ _ h => bad h) (fun _ _ _ _ h => bad h) (fun _ _ h => bad h) (fun _ _ h => bad h) (fun _ _ h => bad h) (fun _ _ _ _ h => bad h) (fun _ _ _ _ h => bad h) (fun _ _ _ _ h => bad h) (fun _ _ h => bad h) (fun _ _ _ h => bad h) (fun _ _ _ h => bad h) (fun _ _ _ h => bad h) (fun _ _ h => bad h) (fun _ _ h => bad h) (fun _ _ h => bad h) (fun _ _ _ h => bad h) (fun _ _ _ _ h => bad h)
noncomputable def dCall (e : PySem.Expr) : Option (PySem.Expr × List PySem.Expr × List Keyword × Pos) := PySem.Expr.casesOn (motive_1 := fun _ => Option (PySem.Expr × List PySem.Expr × List Keyword × Pos)) e (fun _ _ _ => none) (fun _ _ _ => none) (fun _ _ _ _ => none) (fun _ _ _ => none) (fun _ _ _ _ => none) (fun _ _ _ _ => none) (fun _ _ _ => none) (fun _ _ _ => none) (fun _ _ _ _ => none) (fun _ _ _ _ => none) (fun _ _ _ _ _ => none) (fun _ _ _ _ => none) (fun _ _ => none) (fun _ _ => none) (fun _ _ => none) (fun _ _ _ _ => none) (fun a0 a1 a2 a3 => some (a0, a1, a2, a3)) (fun _ _ _ _ => none) (fun _ _ => none) (fun _ _ _ => none) (fun _ _ _ => none) (fun _ _ _ => none) (fun _ _ => none) (fun _ _ => none) (fun _ _ => none) (fun _ _ _ => none) (fun _ _ _ _ => none)
theorem dCall_ok {e : PySem.Expr} {q : PySem.Expr × List PySem.Expr × List Keyword × Pos} : dCall e = some q → e = .Call q.1 q.2.1 q.2.2.1 q.2.2.2 :=
  PySem.Expr.casesOn (motive_1 := fun e => dCall e = some q → e = .Call q.1 q.2.1 q.2.2.1 q.2.2.2) e (fun _ _ _ h => bad h) (fun _ _ _ h => bad h) (fun _ _ _ _ h => bad h) (fun _ _ _ h => bad h) (fun _ _ _ _ h => bad h) (fun _ _ _ _ h => bad h) (fun _ _ _ h => bad h) (fun _ _ _ h => bad h) (fun _ _ _ _ h => bad h) (fun _ _ _ _ h => bad h) (fun _ _ _ _ _ h => bad h) (fun _ _ _ _ h => bad h) (fun _ _ h => bad h) (fun _ _ h => bad h) (fun _ _ h => bad h) (fun _ _ _ _ h => bad h) (fun _ _ _ _ h => by cases h; rfl) (fun _ _ _ _ h => bad h) (fun _ _ h => bad h) (fun _ _ _ h => bad h) (fun _ _ _ h => bad h) (fun _ _ _ h => bad h) (fun _ _ h => bad h) (fun _ _ h => bad h) (fun _ _ h => bad h) (fun _ _ _ h => bad h) (fun _ _ _ _ h => bad h)
noncomputable def dAt (e : PySem.Expr) : Option (PySem.Expr × Str × Pos) := PySem.Expr.casesOn (motive_1 := fun _ => Option (PySem.Expr × Str × Pos)) e (fun _ _ _ => none) (fun _ _ _ => none) (fun _ _ _ _ => none) (fun _ _ _ => none) (fun _ _ _ _ => none) (fun _ _ _ _ => none) (fun _ _ _ => none) (fun _ _ _ => none) (fun _ _ _ _ => none) (fun _ _ _ _ => none) (fun _ _ _ _ _ => none) (fun _ _ _ _ => none) (fun _ _ => none) (fun _ _ => none) (fun _ _ => none) (fun _ _ _ _ => none) (fun _ _ _ _ => none) (fun _ _ _ _ => none) (fun _ _ => none) (fun _ _ _ => none) (fun a0 a1 a2 => some (a0, a1, a2)) (fun _ _ _ => none) (fun _ _ => none) (fun _ _ => none) (fun _ _ => none) (fun _ _ _ => none) (fun _ _ _ _ => none)
theorem dAt_ok {e : PySem.Expr} {q : PySem.Expr × Str × Pos} : dAt e = some q → e = .Attribute q.1 q.2.1 q.2.2 :=
  PySem.Expr.casesOn (motive_1 := fun e => dAt e = some q → e = .Attribute q.1 q.2.1 q.2.2) e (fun _ _ _ h => bad h) (fun _ _ _ h => bad h) (fun _ _ _ _ h => bad h) (fun _ _ _ h => bad h) (fun _ _ _ _ h => bad h) (fun _ _ _ _ h => bad h) (fun _ _ _ h => bad h) (fun _ _ _ h => bad h) (fun _ _ _ _ h => bad h) (fun _ _ _ _ h => bad h) (fun _ _ _ _ _ h => bad h) (fun _ _ _ _ h => bad h) (fun _ _ h => bad h) (fun _ _ h => bad h) (fun _ _ h => bad h) (fun _ _ _ _ h => bad h) (fun _ _ _ _ h => bad h) (fun _ _ _ _ h => bad h) (fun _ _ h => bad h) (fun _ _ _ h => bad h) (fun _ _ _ h => by cases h; rfl) (fun _ _ _ h => bad h) (fun _ _ h => bad h) (fun _ _ h => bad h) (fun _ _ h => bad h) (fun _ _ _ h => bad h) (fun _ _ _ _ h => bad h)
noncomputable def dBool (e : PySem.Expr) : Option (BoolOp × List PySem.Expr) := PySem.Expr.casesOn (motive_1 := fun _ => Option (BoolOp × List PySem.Expr)) e (fun a0 a1 _ => some (a0, a1)) (fun _ _ _ => none) (fun _ _ _ _ => none) (fun _ _ _ => none) (fun _ _ _ _ => none) (fun _ _ _ _ => none) (fun _ _ _ => none) (fun _ _ _ => none) (fun _ _ _ _ => none) (fun _ _ _ _ => none) (fun _ _ _ _ _ => none) (fun _ _ _ _ => none) (fun _ _ => none) (fun _ _ => none) (fun _ _ => none) (fun _ _ _ _ => none) (fun _ _ _ _ => none) (fun _ _ _ _ => none) (fun _ _ => none) (fun _ _ _ => none) (fun _ _ _ => none) (fun _ _ _ => none) (fun _ _ => none) (fun _ _ => none) (fun _ _ => none) (fun _ _ _ => none) (fun _ _ _ _ => none)
theorem dBool_ok {e : PySem.Expr} {q : BoolOp × List PySem.Expr} : dBool e = some q → ∃ b2, e = .BoolOp q.1 q.2 b2 :=
  PySem.Expr.casesOn (motive_1 := fun e => dBool e = some q → ∃ b2, e = .BoolOp q.1 q.2 b2) e (fun _ _ b2 h => ⟨b2, by cases h; rfl⟩) (fun _ _ _ h => bad h) (fun _ _ _ _ h => bad h) (fun _ _ _ h => bad h) (fun _ _ _ _ h => bad h) (fun _ _ _ _ h => bad h) (fun _ _ _ h => bad h) (fun _ _ _ h => bad h) (fun _ _ _ _ h => bad h) (fun _ _ _ _ h => bad h) (fun _ _ _ _ _ h => bad h) (fun _ _ _ _ h => bad h) (fun _ _ h => bad h) (fun _ _ h => bad h) (fun _ _ h => bad h) (fun _ _ _ _ h => bad h) (fun _ _ _ _ h => bad h) (fun _ _ _ _ h => bad h) (fun _ _ h => bad h) (fun _ _ _ h => bad h) (fun _ _ _ h => bad h) (fun _ _ _ h => bad h) (fun _ _ h => bad h) (fun _ _ h => bad h) (fun _ _ h => bad h) (fun _ _ _ h => bad h) (fun _ _ _ _ h => bad h)
noncomputable def dAsg (e : PySem.Stmt) : Option (List PySem.Expr × PySem.Expr) := PySem.Stmt.casesOn (motive_2 := fun _ => Option (List PySem.Expr × PySem.Expr)) e (fun _ _ _ _ _ _ _ _ _ _ => none) (fun _ _ _ _ _ _ _ _ _ _ => none) (fun _ _ _ _ _ _ _ _ _ _ _ => none) (fun _ _ => none) (fun _ _ => none) (fun a0 a1 _ => some (a0, a1)) (fun _ _ _ _ _ _ _ => none) (fun _ _ _ _ => none) (fun _ _ _ _ _ => none) (fun _ _ _ _ _ => none) (fun _ _ _ _ _ => none) (fun _ _ _ _ => none) (fun _ _ _ _ => none) (fun _ _ _ => none) (fun _ _ _ => none) (fun _ _ _ => none) (fun _ _ _ => none) (fun _ _ _ _ _ => none) (fun _ _ _ _ _ => none) (fun _ _ _ => none) (fun _ _ => none) (fun _ _ _ _ => none) (fun _ _ => none) (fun _ _ => none) (fun _ _ => none) (fun _ => none) (fun _ => none) (fun _ => none)
theorem dAsg_ok {e : PySem.Stmt} {q : List PySem.Expr × PySem.Expr} : dAsg e = some q → ∃ b2, e = .Assign q.1 q.2 b2 :=
  PySem.Stmt.casesOn (motive_2 := fun e => dAsg e = some q → ∃ b2, e = .Assign q.1 q.2 b2) e (fun _ _ _ _ _ _ _ _ _ _ h => bad h) (fun _ _ _ _ _ _ _ _ _ _ h => bad h) (fun _ _ _ _ _ _ _ _ _ _ _ h => bad h) (fun _ _ h => bad h) (fun _ _ h => bad h) (fun _ _ b2 h => ⟨b2, by cases h; rfl⟩) (fun _ _ _ _ _ _ _ h => bad h) (fun _ _ _ _ h => bad h) (fun _ _ _ _ _ h => bad h) (fun _ _ _ _ _ h => bad h) (fun _ _ _ _ _ h => bad h) (fun _ _ _ _ h => bad h) (fun _ _ _ _ h => bad h) (fun _ _ _ h => bad h) (fun _ _ _ h => bad h) (fun _ _ _ h => bad h) (fun _ _ _ h => bad h) (fun _ _ _ _ _ h => bad h) (fun _ _ _ _ _ h => bad h) (fun _ _ _ h => bad h) (fun _ _ h => bad h) (fun _ _ _ _ h => bad h) (fun _ _ h => bad h) (fun _ _ h => bad h) (fun _ _ h => bad h) (fun _ h => bad h) (fun _ h => bad h) (fun _ h => bad h)
noncomputable def dIf (e : PySem.Stmt) : Option (PySem.Expr × List Stmt × List Stmt) := PySem.Stmt.casesOn (motive_2 := fun _ => Option (PySem.Expr × List Stmt × List Stmt)) e (fun _ _ _ _ _ _ _ _ _ _ => none) (fun _ _ _ _ _ _ _ _ _ _ => none) (fun _ _ _ _ _ _ _ _ _ _ _ => none) (fun _ _ => none) (fun _ _ => none) (fun _ _ _ => none) (fun _ _ _ _ _ _ _ => none) (fun _ _ _ _ => none) (fun _ _ _ _ _ => none) (fun _ _ _ _ _ => none) (fun _ _ _ _ _ => none) (fun _ _ _ _ => none) (fun a0 a1 a2 _ => some (a0, a1, a2)) (fun _ _ _ => none) (fun _ _ _ => none) (fun _ _ _ => none) (fun _ _ _ => none) (fun _ _ _ _ _ => none) (fun _ _ _ _ _ => none) (fun _ _ _ => none) (fun _ _ => none) (fun _ _ _ _ => none) (fun _ _ => none) (fun _ _ => none) (fun _ _ => none) (fun _ => none) (fun _ => none) (fun _ => none)
theorem dIf_ok {e : PySem.Stmt} {q : PySem.Expr × List Stmt × List Stmt} : dIf e = some q → ∃ b3, e = .If q.1 q.2.1 q.2.2 b3 :=
  PySem.Stmt.casesOn (motive_2 := fun e => dIf e = some q → ∃ b3, e = .If q.1 q.2.1 q.2.2 b3) e (fun _ _ _ _ _ _ _ _ _ _ h => bad h) (fun _ _ _ _ _ _ _ _ _ _ h => bad h) (fun _ _ _ _ _ _ _ _ _ _ _ h => bad h) (fun _ _ h => bad h) (fun _ _ h => bad h) (fun _ _ _ h => bad h) (fun _ _ _ _ _ _ _ h => bad h) (fun _ _ _ _ h => bad h) (fun _ _ _ _ _ h => bad h) (fun _ _ _ _ _ h => bad h) (fun _ _ _ _ _ h => bad h) (fun _ _ _ _ h => bad h) (fun _ _ _ b3 h => ⟨b3, by cases h; rfl⟩) (fun _ _ _ h => bad h) (fun _ _ _ h => bad h) (fun _ _ _ h => bad h) (fun _ _ _ h => bad h) (fun _ _ _ _ _ h => bad h) (fun _ _ _ _ _ h => bad h) (fun _ _ _ h => bad h) (fun _ _ h => bad h) (fun _ _ _ _ h => bad h) (fun _ _ h => bad h) (fun _ _ h => bad h) (fun _ _ h => bad h) (fun _ h => bad h) (fun _ h => bad h) (fun _ h => bad h)
noncomputable def dFor (e : PySem.Stmt) : Option (PySem.Expr × PySem.Expr × List Stmt × List Stmt) := PySem.Stmt.casesOn (motive_2 := fun _ => Option (PySem.Expr × PySem.Expr × List Stmt × List Stmt)) e (fun _ _ _ _ _ _ _ _ _ _ => none) (fun _ _ _ _ _ _ _ _ _ _ => none) (fun _ _ _ _ _ _ _ _ _ _ _ => none) (fun _ _ => none) (fun _ _ => none) (fun _ _ _ => none) (fun _ _ _ _ _ _ _ => none) (fun _ _ _ _ => none) (fun _ _ _ _ _ => none) (fun a0 a1 a2 a3 _ => some (a0, a1, a2, a3)) (fun _ _ _ _ _ => none) (fun _ _ _ _ => none) (fun _ _ _ _ => none) (fun _ _ _ => none) (fun _ _ _ => none) (fun _ _ _ => none) (fun _ _ _ => none) (fun _ _ _ _ _ => none) (fun _ _ _ _ _ => none) (fun _ _ _ => none) (fun _ _ => none) (fun _ _ _ _ => none) (fun _ _ => none) (fun _ _ => none) (fun _ _ => none) (fun _ => none) (fun _ => none) (fun _ => none)
theorem dFor_ok {e : PySem.Stmt} {q : PySem.Expr × PySem.Expr × List Stmt × List Stmt} : dFor e = some q → ∃ b4, e = .For q.1 q.2.1 q.2.2.1 q.2.2.2 b4 :=
  PySem.Stmt.casesOn (motive_2 := fun e => dFor e = some q → ∃ b4, e = .For q.1 q.2.1 q.2.2.1 q.2.2.2 b4) e (fun _ _ _ _ _ _ _ _ _ _ h => bad h) (fun _ _ _ _ _ _ _ _ _ _ h => bad h) (fun _ _ _ _ _ _ _ _ _ _ _ h => bad h) (fun _ _ h => bad h) (fun _ _ h => bad h) (fun _ _ _ h => bad h) (fun _ _ _ _ _ _ _ h => bad h) (fun _ _ _ _ h => bad h) (fun _ _ _ _ _ h => bad h) (fun _ _ _ _ b4 h => ⟨b4, by cases h; rfl⟩) (fun _ _ _ _ _ h => bad h) (fun _ _ _ _ h => bad h) (fun _ _ _ _ h => bad h) (fun _ _ _ h => bad h) (fun _ _ _ h => bad h) (fun _ _ _ h => bad h) (fun _ _ _ h => bad h) (fun _ _ _ _ _ h => bad h) (fun _ _ _ _ _ h => bad h) (fun _ _ _ h => bad h) (fun _ _ h => bad h) (fun _ _ _ _ h => bad h) (fun _ _ h => bad h) (fun _ _ h => bad h) (fun _ _ h => bad h) (fun _ h => bad h) (fun _ h => bad h) (fun _ h => bad h)
noncomputable def dRet (e : PySem.Stmt) : Option (Option PySem.Expr) := PySem.Stmt.casesOn (motive_2 := fun _ => Option (Option PySem.Expr)) e (fun _ _ _ _ _ _ _ _ _ _ => none) (fun _ _ _ _ _ _ _ _ _ _ => none) (fun _ _ _ _ _ _ _ _ _ _ _ => none) (fun a0 _ => some a0) (fun _ _ => none) (fun _ _ _ => none) (fun _ _ _ _ _ _ _ => none) (fun _ _ _ _ => none) (fun _ _ _ _ _ => none) (fun _ _ _ _ _ => none) (fun _ _ _ _ _ => none) (fun _ _ _ _ => none) (fun _ _ _ _ => none) (fun _ _ _ => none) (fun _ _ _ => none) (fun _ _ _ => none) (fun _ _ _ => none) (fun _ _ _ _ _ => none) (fun _ _ _ _ _ => none) (fun _ _ _ => none) (fun _ _ => none) (fun _ _ _ _ => none) (fun _ _ => none) (fun _ _ => none) (fun _ _ => none) (fun _ => none) (fun _ => none) (fun _ => none)
theorem dRet_ok {e : PySem.Stmt} {q : Option PySem.Expr} : dRet e = some q → ∃ b1, e = .Return q b1 :=
  PySem.Stmt.casesOn (motive_2 := fun e => dRet e = some q → ∃ b1, e = .Return q b1) e (fun _ _ _ _ _ _ _ _ _ _ h => bad h) (fun _ _ _ _ _ _ _ _ _ _ h => bad h) (fun _ _ _ _ _ _ _ _ _ _ _ h => bad h) (fun _ b1 h => ⟨b1, by cases h; rfl⟩) (fun _ _ h => bad h) (fun _ _ _ h => bad h) (fun _ _ _ _ _ _ _ h => bad h) (fun _ _ _ _ h => bad h) (fun _ _ _ _ _ h => bad h) (fun _ _ _ _ _ h => bad h) (fun _ _ _ _ _ h => bad h) (fun _ _ _ _ h => bad h) (fun _ _ _ _ h => bad h) (fun _ _ _ h => bad h) (fun _ _ _ h => bad h) (fun _ _ _ h => bad h) (fun _ _ _ h => bad h) (fun _ _ _ _ _ h => bad h) (fun _ _ _ _ _ h => bad h) (fun _ _ _ h => bad h) (fun _ _ h => bad h) (fun _ _ _ _ h => bad h) (fun _ _ h => bad h) (fun _ _ h => bad h) (fun _ _ h => bad h) (fun _ h => bad h) (fun _ h => bad h) (fun _ h => bad h)
noncomputable def dEx (e : PySem.Stmt) : Option (PySem.Expr) := PySem.Stmt.casesOn (motive_2 := fun _ => Option (PySem.Expr)) e (fun _ _ _ _ _ _ _ _ _ _ => none) (fun _ _ _ _ _ _ _ _ _ _ => none) (fun _ _ _ _ _ _ _ _ _ _ _ => none) (fun _ _ => none) (fun _ _ => none) (fun _ _ _ => none) (fun _ _ _ _ _ _ _ => none) (fun _ _ _ _ => none) (fun _ _ _ _ _ => none) (fun _ _ _ _ _ => none) (fun _ _ _ _ _ => none) (fun _ _ _ _ => none) (fun _ _ _ _ => none) (fun _ _ _ => none) (fun _ _ _ => none) (fun _ _ _ => none) (fun _ _ _ => none) (fun _ _ _ _ _ => none) (fun _ _ _ _ _ => none) (fun _ _ _ => none) (fun _ _ => none) (fun _ _ _ _ => none) (fun _ _ => none) (fun _ _ => none) (fun a0 _ => some a0) (fun _ => none) (fun _ => none) (fun _ => none)
theorem dEx_ok {e : PySem.Stmt} {q : PySem.Expr} : dEx e = some q → ∃ b1, e = .Expr q b1 :=
  PySem.Stmt.casesOn (motive_2 := fun e => dEx e = some q → ∃ b1, e = .Expr q b1) e (fun _ _ _ _ _ _ _ _ _ _ h => bad h) (fun _ _ _ _ _ _ _ _ _ _ h => bad h) (fun _ _ _ _ _ _ _ _ _ _ _ h => bad h) (fun _ _ h => bad h) (fun _ _ h => bad h) (fun _ _ _ h => bad h) (fun _ _ _ _ _ _ _ h => bad h) (fun _ _ _ _ h => bad h) (fun _ _ _ _ _ h => bad h) (fun _ _ _ _ _ h => bad h) (fun _ _ _ _ _ h => bad h) (fun _ _ _ _ h => bad h) (fun _ _ _ _ h => bad h) (fun _ _ _ h => bad h) (fun _ _ _ h => bad h) (fun _ _ _ h => bad h) (fun _ _ _ h => bad h) (fun _ _ _ _ _ h => bad h) (fun _ _ _ _ _ h => bad h) (fun _ _ _ h => bad h) (fun _ _ h => bad h) (fun _ _ _ _ h => bad h) (fun _ _ h => bad h) (fun _ _ h => bad h) (fun _ b1 h => ⟨b1, by cases h; rfl⟩) (fun _ h => bad h) (fun _ h => bad h) (fun _ h => bad h)
noncomputable def dWhile (e : PySem.Stmt) : Option (PySem.Expr × List Stmt × List Stmt) := PySem.Stmt.casesOn (motive_2 := fun _ => Option (PySem.Expr × List Stmt × List Stmt)) e (fun _ _ _ _ _ _ _ _ _ _ => none) (fun _ _ _ _ _ _ _ _ _ _ => none) (fun _ _ _ _ _ _ _ _ _ _ _ => none) (fun _ _ => none) (fun _ _ => none) (fun _ _ _ => none) (fun _ _ _ _ _ _ _ => none) (fun _ _ _ _ => none) (fun _ _ _ _ _ => none) (fun _ _ _ _ _ => none) (fun _ _ _ _ _ => none) (fun a0 a1 a2 _ => some (a0, a1, a2)) (fun _ _ _ _ => none) (fun _ _ _ => none) (fun _ _ _ => none) (fun _ _ _ => none) (fun _ _ _ => none) (fun _ _ _ _ _ => none) (fun _ _ _ _ _ => none) (fun _ _ _ => none) (fun _ _ => none) (fun _ _ _ _ => none) (fun _ _ => none) (fun _ _ => none) (fun _ _ => none) (fun _ => none) (fun _ => none) (fun _ => none)
theorem dWhile_ok {e : PySem.Stmt} {q : PySem.Expr × List Stmt × List Stmt} : dWhile e = some q → ∃ b3, e = .While q.1 q.2.1 q.2.2 b3 :=
  PySem.Stmt.casesOn (motive_2 := fun e => dWhile e = some q → ∃ b3, e = .While q.1 q.2.1 q.2.2 b3) e (fun _ _ _ _ _ _ _ _ _ _ h => bad h) (fun _ _ _ _ _ _ _ _ _ _ h => bad h) (fun _ _ _ _ _ _ _ _ _ _ _ h => bad h) (fun _ _ h => bad h) (fun _ _ h => bad h) (fun _ _ _ h => bad h) (fun _ _ _ _ _ _ _ h => bad h) (fun _ _ _ _ h => bad h) (fun _ _ _ _ _ h => bad h) (fun _ _ _ _ _ h => bad h) (fun _ _ _ _ _ h => bad h) (fun _ _ _ b3 h => ⟨b3, by cases h; rfl⟩) (fun _ _ _ _ h => bad h) (fun _ _ _ h => bad h) (fun _ _ _ h => bad h) (fun _ _ _ h => bad h) (fun _ _ _ h => bad h) (fun _ _ _ _ _ h => bad h) (fun _ _ _ _ _ h => bad h) (fun _ _ _ h => bad h) (fun _ _ h => bad h) (fun _ _ _ _ h => bad h) (fun _ _ h => bad h) (fun _ _ h => bad h) (fun _ _ h => bad h) (fun _ h => bad h) (fun _ h => bad h) (fun _ h => bad h)
noncomputable def dBreak (e : PySem.Stmt) : Option (Unit) := PySem.Stmt.casesOn (motive_2 := fun _ => Option (Unit)) e (fun _ _ _ _ _ _ _ _ _ _ => none) (fun _ _ _ _ _ _ _ _ _ _ => none) (fun _ _ _ _ _ _ _ _ _ _ _ => none) (fun _ _ => none) (fun _ _ => none) (fun _ _ _ => none) (fun _ _ _ _ _ _ _ => none) (fun _ _ _ _ => none) (fun _ _ _ _ _ => none) (fun _ _ _ _ _ => none) (fun _ _ _ _ _ => none) (fun _ _ _ _ => none) (fun _ _ _ _ => none) (fun _ _ _ => none) (fun _ _ _ => none) (fun _ _ _ => none) (fun _ _ _ => none) (fun _ _ _ _ _ => none) (fun _ _ _ _ _ => none) (fun _ _ _ => none) (fun _ _ => none) (fun _ _ _ _ => none) (fun _ _ => none) (fun _ _ => none) (fun _ _ => none) (fun _ => none) (fun _ => some ()) (fun _ => none)
theorem dBreak_ok {e : PySem.Stmt} {q : Unit} : dBreak e = some q → ∃ b0, e = .Break b0 :=
  PySem.Stmt.casesOn (motive_2 := fun e => dBreak e = some q → ∃ b0, e = .Break b0) e (fun _ _ _ _ _ _ _ _ _ _ h => bad h) (fun _ _ _ _ _ _ _ _ _ _ h => bad h) (fun _ _ _ _ _ _ _ _ _ _ _ h => bad h) (fun _ _ h => bad h) (fun _ _ h => bad h) (fun _ _ _ h => bad h) (fun _ _ _ _ _ _ _ h => bad h) (fun _ _ _ _ h => bad h) (fun _ _ _ _ _ h => bad h) (fun _ _ _ _ _ h => bad h) (fun _ _ _ _ _ h => bad h) (fun _ _ _ _ h => bad h) (fun _ _ _ _ h => bad h) (fun _ _ _ h => bad h) (fun _ _ _ h => bad h) (fun _ _ _ h => bad h) (fun _ _ _ h => bad h) (fun _ _ _ _ _ h => bad h) (fun _ _ _ _ _ h => bad h) (fun _ _ _ h => bad h) (fun _ _ h => bad h) (fun _ _ _ _ h => bad h) (fun _ _ h => bad h) (fun _ _ h => bad h) (fun _ _ h => bad h) (fun _ h => bad h) (fun b0 h => ⟨b0, by cases h; rfl⟩) (fun _ h => bad h)
end Mine.Internal
end
section
open PySem PySem.W PySem.Calls PyProof.Rows PySem.Builtin
set_option Elab.async false
set_option linter.unusedVariables false
namespace Mine.Internal

noncomputable abbrev Nm := List (Str × NameKind)
noncomputable abbrev Sc := List (Str × Nat)
noncomputable def relNm (nm : Nm) (names : Nm) : Nm := names.map fun (n, k) => if (k == .free && nm.lookup n == some .cell) = true then (n, .cell) else (n, k)
noncomputable def cf (o : Option NameKind) : Bool := o == some .cell || o == some .free
noncomputable def tgts : List Expr → Option (List (Str × Pos))
  | [] => some []
  | e :: r => (dNameP e).bind fun q => (tgts r).map (q :: ·)
noncomputable def lc (nm : Nm) (X : Str) : Bool := nm.lookup X == some .local || nm.lookup X == some .cell
noncomputable def isN {α : Type} (l : List α) : Bool := match l with | [] => true | _ => false
theorem isN_ok {α : Type} {l : List α} (h : isN l = true) : l = [] := by
  cases l with
  | nil => rfl
  | cons => exact Bool.noConfusion h
noncomputable def tgtChk (nm : Nm) (sc : Sc) : List (Str × Pos) → List Nat → Bool
  | [], is => isN is
  | q :: r, is => (match is with | i :: is => decide ((q.1, i) ∈ sc) && lc nm q.1 && tgtChk nm sc r is | [] => false)
theorem lc_ok {nm : Nm} {X : Str} (h : lc nm X = true) : nm.lookup X = some .local ∨ nm.lookup X = some .cell := by
  unfold lc at h
  simpa using h
theorem tgts_ok : ∀ {ts : List Expr} {l : List (Str × Pos)}, tgts ts = some l → ts = l.map nmE
  | [], l, h => by cases h; rfl
  | e :: r, l, h => by
    obtain ⟨q, h1, h⟩ := bd_ok h
    obtain ⟨l', e, rfl⟩ := mp_ok h
    rw [tgts_ok e, dNameP_ok h1]; rfl
theorem tgtChk_ok {nm : Nm} {sc : Sc} : ∀ {l : List (Str × Pos)} {is : List Nat}, tgtChk nm sc l is = true → TgtOk (fun x => nm.lookup x) sc l is
  | [], is, h => by cases isN_ok h; trivial
  | q :: r, is, h => by
    cases is with
    | nil => exact Bool.noConfusion h
    | cons i is =>
      obtain ⟨h1, h2, h3⟩ := an3 h
      exact ⟨of_decide_eq_true h1, lc_ok h2, tgtChk_ok h3⟩
noncomputable def tgChk (nm : Nm) (sc : Sc) (tg : Tg) (te : Expr) : Bool := match tg with
  | .one i => gd (dNameP te) fun q => decide ((q.1, i) ∈ sc) && lc nm q.1
  | .tup is => gd (dTup te) fun ts => gd (tgts ts) fun l => tgtChk nm sc l is
theorem tgChk_ok {nm : Nm} {sc : Sc} {tg : Tg} {te : Expr} (h : tgChk nm sc tg te = true) : TgE (fun x => nm.lookup x) sc tg te := by
  cases tg with
  | one i =>
    obtain ⟨q, h1, h⟩ := gd_ok h
    rw [dNameP_ok h1]
    exact .one (of_decide_eq_true (an2 h).1) (lc_ok (an2 h).2)
  | tup is =>
    obtain ⟨ts, h1, h⟩ := gd_ok h
    obtain ⟨k, p, rfl⟩ := dTup_ok h1
    obtain ⟨l, h2, h⟩ := gd_ok h
    rw [tgts_ok h2]
    exact .tup (tgtChk_ok h)
noncomputable def tvOf (tg : Tg) (te : Expr) : Sc := (tgN te).zip (tgI tg)
noncomputable def compSc (nm : Nm) (sc : Sc) (scope : Scope) (tv : Sc) : Sc :=
  tv ++ sc.filter fun p => tv.all (fun q => !(p.2 == q.2) && !(p.1 == q.1)) && decide ((p.1, NameKind.free) ∈ scope.names) && cf ((relNm nm scope.names).lookup p.1) && cf (nm.lookup p.1)
noncomputable def oneCell (l : List (Str × NameKind)) : Bool := match l with | [] => true | x :: r => isN r && x.2 == .cell
noncomputable def compChk (nm : Nm) (sc : Sc) (scope : Scope) (tg : Tg) (te : Expr) : Bool :=
  scope.kind == .function && oneCell (scope.names.filter fun y => y.2 == .cell) && scope.names.all (fun y => !(y.2 == .local) || scope.names.lookup y.1 == some .local) &&
  scope.names.all (fun y => !(y.2 == .free) || (sc.any (fun p => p.1 == y.1) && cf (nm.lookup y.1))) && tgChk (relNm nm scope.names) (compSc nm sc scope (tvOf tg te)) tg te &&
  ((tgN te).all (fun x => (tvOf tg te).any (fun q => q.1 == x)) && (tvOf tg te).all (fun q => !decide ((q.1, NameKind.free) ∈ scope.names) && ((relNm nm scope.names).lookup q.1 == some .local || ((relNm nm scope.names).lookup q.1 == some .cell && decide ((q.1, NameKind.cell) ∈ scope.names))))) &&
  ((tvOf tg te).all (fun p => (tvOf tg te).all fun q => (!(p.2 == q.2) || p.1 == q.1) && (!(p.1 == q.1) || p.2 == q.2)) && scope.names.all (fun y => !(y.2 == .free) || !decide ((y.1, NameKind.cell) ∈ scope.names)))
theorem cf_or {o : Option NameKind} (h : cf o = true) : o = some .cell ∨ o = some .free := by
  unfold cf at h
  simpa using h
theorem nt_or {a b : Bool} (h : (!a || b) = true) (ha : a = true) : b = true := by
  rw [ha] at h; exact h
theorem compChk_ok {nm : Nm} {sc : Sc} {scope : Scope} {tg : Tg} {te : Expr} (h : compChk nm sc scope tg te = true) : CC (fun x => nm.lookup x) sc (compSc nm sc scope (tvOf tg te)) scope (tvOf tg te) te tg := by
  unfold compChk at h
  refine nng fun nG => ?_
  obtain ⟨h1, h2, h3, h4, h5, h6, h7⟩ := an7 h
  obtain ⟨h6, h8⟩ := an2 h6
  obtain ⟨h7, h9⟩ := an2 h7
  refine nG ?_
  clear nG
  have h8' : ∀ q ∈ tvOf tg te, (q.1, NameKind.free) ∉ scope.names ∧ ((relNm nm scope.names).lookup q.1 = some .local ∨ ((relNm nm scope.names).lookup q.1 = some .cell ∧ (q.1, NameKind.cell) ∈ scope.names)) := fun q hq => by
    have := List.all_eq_true.mp h8 q hq
    simpa using this
  have h7' : ∀ p ∈ tvOf tg te, ∀ q ∈ tvOf tg te, (p.2 = q.2 → p.1 = q.1) ∧ (p.1 = q.1 → p.2 = q.2) := fun p hp q hq => by
    obtain ⟨a1, a2⟩ := an2 (List.all_eq_true.mp (List.all_eq_true.mp h7 p hp) q hq)
    exact ⟨fun e => eq_of_beq (nt_or a1 (beq_iff_eq.mpr e)), fun e => eq_of_beq (nt_or a2 (beq_iff_eq.mpr e))⟩
  refine ⟨eq_of_beq h1, ?_, fun y hy hl => eq_of_beq (nt_or (List.all_eq_true.mp h3 y hy) (beq_iff_eq.mpr hl)), fun y hy hf => ?_, tgChk_ok h5, fun x hx => ?_, fun q hq => (h8' q hq).1, fun q hq => (h8' q hq).2, fun p hp => ?_,
    fun p hp q hq => (h7' p hp q hq).1, fun p hp q hq => (h7' p hp q hq).2, fun q hq => (List.of_mem_zip hq).2, fun y hf hc => ?_⟩
  · generalize hl : (scope.names.filter fun y => y.2 == .cell) = l at h2
    cases l with
    | nil =>
      refine .inl fun y hy hc => ?_
      have : y ∈ scope.names.filter fun y => y.2 == .cell := List.mem_filter.mpr ⟨hy, beq_iff_eq.mpr hc⟩
      rw [hl] at this; cases this
    | cons x r =>
      obtain ⟨e1, e2⟩ := an2 h2
      cases isN_ok e1
      exact .inr ⟨x.1, by rw [← eq_of_beq e2]⟩
  · obtain ⟨a1, a2⟩ := an2 (nt_or (List.all_eq_true.mp h4 y hy) (beq_iff_eq.mpr hf))
    obtain ⟨p, hp, e⟩ := List.any_eq_true.mp a1
    exact ⟨p, hp, eq_of_beq e, cf_or a2⟩
  · obtain ⟨q, hq, e⟩ := List.any_eq_true.mp (List.all_eq_true.mp h6 x hx)
    exact List.mem_map.mpr ⟨q, hq, eq_of_beq e⟩
  · unfold compSc at hp
    rcases List.mem_append.mp hp with hp | hp
    · exact .inl hp
    · refine nng fun nG => ?_
      obtain ⟨q1, q2⟩ := List.mem_filter.mp hp
      obtain ⟨a1, a3, a4, a5⟩ := an4 q2
      refine nG ?_
      clear nG
      refine .inr ⟨q1, fun q hq => ?_, of_decide_eq_true a3, cf_or a4, cf_or a5⟩
      obtain ⟨b1, b2⟩ := an2 (List.all_eq_true.mp a1 q hq)
      exact ⟨fun e => by rw [beq_iff_eq.mpr e] at b1; exact Bool.noConfusion b1, fun e => by rw [beq_iff_eq.mpr e] at b2; exact Bool.noConfusion b2⟩
  · have := nt_or (List.all_eq_true.mp h9 (y, .free) hf) (by rfl)
    rw [decide_eq_true (show (y, NameKind.cell) ∈ scope.names from hc)] at this
    exact Bool.noConfusion this
theorem fsi {e : Expr} (h : nset e = true) (env : Env) (x : Value) : foldedSetIterable e env x = pure x := by
  cases e <;> first | rfl | exact Bool.noConfusion h

noncomputable def sameD (a b : D) : Bool := match a with
  | .str a => (match b with | .str b => a == b | _ => false)
  | _ => false
theorem sameD_ok {a b : D} (h : sameD a b = true) : a = b := by
  cases a <;> first | exact Bool.noConfusion h | skip
  cases b <;> first | exact Bool.noConfusion h | exact congrArg D.str (eq_of_beq h)
noncomputable def litD (a b : D) : Bool := match a with
  | .none => (match b with | .none => true | _ => false)
  | .bool a => (match b with | .bool b => a == b | _ => false)
  | .int a => (match b with | .int b => a == b | _ => false)
  | .flt a => (match b with | .flt b => a == b | _ => false)
  | .str a => (match b with | .str b => a == b | _ => false)
  | _ => false
theorem litD_ok {a b : D} (h : litD a b = true) : a = b := by
  cases a <;> first | exact Bool.noConfusion h | skip
  all_goals cases b <;> first | exact Bool.noConfusion h | rfl | exact congrArg _ (eq_of_beq h)
noncomputable def litOk (k : Const) (d : D) : Bool := gd (cst k) fun d' => litD d' d
theorem litOk_ok {k : Const} {d : D} (h : litOk k d = true) : cst k = some d := by
  obtain ⟨x, h1, h2⟩ := gd_ok h
  exact h1.trans (congrArg some (litD_ok h2))

structure Gn where
  fn : Str → Option Nat
  cst : Str → Option D
  pat : Str → Option Nat
  cls : Str
  meth : Str → Option Nat
  pop : Str
  cnt : Str
noncomputable def gi (nm : Nm) (X : Str) : Bool := nm.lookup X == some .globalImplicit && okName X
noncomputable def cN (nm : Nm) (e : Expr) : Option (Str × List Expr) := (dCall e).bind fun q => (dNameP q.1).bind fun r => match isN q.2.2.1 && gi nm r.1 with | true => some (r.1, q.2.1) | false => none
theorem cN_ok {nm : Nm} {e : Expr} {q} (h : cN nm e = some q) : ∃ p p', e = .Call (.Name q.1 p) q.2 [] p' ∧ gi nm q.1 = true := by
  refine nng fun nG => ?_
  obtain ⟨x, h1, h⟩ := bd_ok h
  obtain ⟨y, h2, h⟩ := bd_ok h
  refine nG ?_
  clear nG
  cases hb : isN x.2.2.1 && gi nm y.1 with
  | false => rw [hb] at h; exact bad h
  | true =>
    rw [hb] at h
    cases h
    rw [dCall_ok h1, dNameP_ok h2, isN_ok (an2 hb).1]
    exact ⟨_, _, rfl, (an2 hb).2⟩
noncomputable def cM (e : Expr) : Option (Expr × Str × List Expr) := (dCall e).bind fun q => (dAt q.1).bind fun r => match isN q.2.2.1 && decide (r.2.2.endLine = q.2.2.2.line) with | true => some (r.1, r.2.1, q.2.1) | false => none
theorem cM_ok {e : Expr} {q} (h : cM e = some q) : ∃ ap pos, e = .Call (.Attribute q.1 q.2.1 ap) q.2.2 [] pos ∧ ap.endLine = pos.line := by
  refine nng fun nG => ?_
  obtain ⟨x, h1, h⟩ := bd_ok h
  obtain ⟨y, h2, h⟩ := bd_ok h
  refine nG ?_
  clear nG
  cases hb : isN x.2.2.1 && decide (y.2.2.endLine = x.2.2.2.line) with
  | false => rw [hb] at h; exact bad h
  | true =>
    rw [hb] at h
    cases h
    rw [dCall_ok h1, dAt_ok h2, isN_ok (an2 hb).1]
    exact ⟨_, _, rfl, of_decide_eq_true (an2 hb).2⟩
structure LcD where
  el : Expr
  te : Expr
  iter : Expr
  ifs : List Expr
  scope : Scope
  cp : Pos
noncomputable def cL (e : Expr) : Option LcD := (dLc e).bind fun q => (un1 q.2.1).bind fun c => match c.is_async == 0 with | true => some ⟨q.1, c.target, c.iter, c.ifs, q.2.2.1, q.2.2.2⟩ | false => none
noncomputable def LcD.toE (q : LcD) : Expr := .ListComp q.el [⟨q.te, q.iter, q.ifs, 0⟩] q.scope q.cp
theorem cL_ok {e : Expr} {q} (h : cL e = some q) : e = q.toE := by
  obtain ⟨x, h1, h⟩ := bd_ok h
  obtain ⟨⟨t, it, ifs, ia⟩, h2, h⟩ := bd_ok h
  cases hb : ia == 0 with
  | false => rw [show ((ia == 0) = false) from hb] at h; exact bad h
  | true =>
    rw [show ((ia == 0) = true) from hb] at h
    cases h
    have e1 := un1_ok h2
    have e3 := eq_of_beq hb
    subst e3
    rw [dLc_ok h1, e1]
    rfl

variable (g : Gn)
mutual
noncomputable def chkE : Nat → Nm → Sc → Expr → PE → Bool
  | 0, _, _, _, _ => false
  | m + 1, nm, sc, e, p => match p with
    | .lit d => match dCst e with
      | some k => litOk k d
      | none => gd (dNameP e) fun X => gi nm X.1 && gd (g.cst X.1) fun d' => sameD d' d
    | .var i => gd (dNameP e) fun X => okName X.1 && decide ((X.1, i) ∈ sc)
    | .bin op a b => gd (dBin e) fun q => q.2.1 == op && chkE m nm sc q.1 a && chkE m nm sc q.2.2 b
    | .neg a => gd (dUn e) fun q => q.1 == .USub && chkE m nm sc q.2 a
    | .cmp1 op a b => gd (dCmp e) fun q => gd (un1 q.2.1) fun o => gd (un1 q.2.2) fun y => o == op && nset y && chkE m nm sc q.1 a && chkE m nm sc y b
    | .ite c a b => gd (dIte e) fun q => chkT m nm sc q.1 c && chkE m nm sc q.2.1 a && chkE m nm sc q.2.2 b
    | .idx a i => gd (dSub e) fun q => nsl q.2 && chkE m nm sc q.1 a && chkE m nm sc q.2 i
    | .slc a lo hi => gd (dSub e) fun q => gd (dSlc q.2) fun r => r.2.2.isNone && chkE m nm sc q.1 a && chkO m nm sc r.1 lo && chkO m nm sc r.2.1 hi
    | .tup l => gd (dTup e) fun xs => decide (xs.length ≤ lid) && chkL m nm sc xs l
    | .lst l => gd (dLst e) fun xs => decide (xs.length ≤ lid) && chkL m nm sc xs l
    | .comp ep tg it c => gd (cL e) fun q => compChk nm sc q.scope tg q.te && nset q.iter && chkE m nm sc q.iter it && chkE m (relNm nm q.scope.names) (compSc nm sc q.scope (tvOf tg q.te)) q.el ep &&
          (match c with | none => isN q.ifs | some c => gd (un1 q.ifs) fun t => chkT m (relNm nm q.scope.names) (compSc nm sc q.scope (tvOf tg q.te)) t c)
    | .fn f l => gd (cN nm e) fun q => q.1 == f.name && q.2.all nsl && chkL m nm sc q.2 l
    | .me k o l => gd (cM e) fun q => q.2.1 == k.name && ncall q.1 && q.2.2.all nsl && decide (q.2.2.length < 30) && chkE m nm sc q.1 o && chkL m nm sc q.2.2 l
    | .sub k a b => gd (cM e) fun q => gd (dNameP q.1) fun X => gd (un2 q.2.2) fun y => q.2.1 == ("sub" : Str) && gi nm X.1 && g.pat X.1 == some k && nsl y.1 && nsl y.2 && chkE m nm sc y.1 a && chkE m nm sc y.2 b
    | .call f l => gd (cN nm e) fun q => g.fn q.1 == some f && q.2.all nsl && chkL m nm sc q.2 l
    | .acc0 => gd (cN nm e) fun q => q.1 == g.cls && isN q.2
    | .meth f o l => gd (cM e) fun q => g.meth q.2.1 == some f && !(("_initial_size" : Str) == q.2.1) && ncall q.1 && q.2.2.all nsl && decide (q.2.2.length < 30) && chkE m nm sc q.1 o && chkL m nm sc q.2.2 l
    | .accAppend o a => gd (cM e) fun q => gd (un1 q.2.2) fun y => q.2.1 == ("append" : Str) && ncall q.1 && nsl y && chkE m nm sc q.1 o && chkE m nm sc y a
    | .accPop o => gd (cM e) fun q => q.2.1 == g.pop && !(("_initial_size" : Str) == q.2.1) && ncall q.1 && isN q.2.2 && chkE m nm sc q.1 o
    | .accLen o => gd (cM e) fun q => q.2.1 == g.cnt && !(("_initial_size" : Str) == q.2.1) && ncall q.1 && isN q.2.2 && chkE m nm sc q.1 o
    | .accStr o => gd (cN nm e) fun q => gd (un1 q.2) fun y => q.1 == ("str" : Str) && nsl y && chkE m nm sc y o
    | .popFrom o i => gd (cM e) fun q => q.2.1 == ("pop_from" : Str) && ncall q.1 && chkE m nm sc q.1 o && (match i with | none => isN q.2.2 | some i => gd (un1 q.2.2) fun y => nsl y && chkE m nm sc y i)
    | .mlAppend o a => gd (cM e) fun q => gd (un1 q.2.2) fun y => q.2.1 == ("append" : Str) && ncall q.1 && nsl y && chkE m nm sc q.1 o && chkE m nm sc y a
    | .repl o a b => gd (cM e) fun q => gd (un2 q.2.2) fun y => q.2.1 == ("replace" : Str) && nsup q.1 && gd (dCst y.1) (litOk · (.str a)) && gd (dCst y.2) (litOk · (.str b)) && chkP m nm sc q.1 o
    | .lindex o a => gd (cM e) fun q => gd (un1 q.2.2) fun y => q.2.1 == ("index" : Str) && ncall q.1 && nsl y && chkE m nm sc q.1 o && chkE m nm sc y a
    | .cmp2 o₁ o₂ a b c => gd (dCmp e) fun q => gd (un2 q.2.1) fun o => gd (un2 q.2.2) fun y => o.1 == o₁ && o.2 == o₂ && nset y.2 && chkE m nm sc q.1 a && chkE m nm sc y.1 b && chkE m nm sc y.2 c
    | .band _ => false
    | .bor _ => false
    | .bnot _ => false
noncomputable def chkP : Nat → Nm → Sc → Expr → PE → Bool
  | 0, _, _, _, _ => false
  | m + 1, nm, sc, e, p => match p with
    | .lit d => (match d with | .str x => gd (dCst e) (litOk · (.str x)) | _ => false)
    | .idx a i => gd (dSub e) fun q => nsl q.2 && chkP m nm sc q.1 a && chkE m nm sc q.2 i
    | .me k o l => gd (cM e) fun q => q.2.1 == k.name && ncall q.1 && q.2.2.all nsl && decide (q.2.2.length < 30) && chkE m nm sc q.1 o && (match l with | [] => false | p :: ps => (match q.2.2 with | [] => false | y :: ys => chkP m nm sc y p && chkL m nm sc ys ps))
    | .slc a lo hi => gd (dSub e) fun q => gd (dSlc q.2) fun r => r.2.2.isNone && chkE m nm sc q.1 a && chkO m nm sc r.1 lo && (match hi with | none => false | some h => gd r.2.1 fun t => chkP m nm sc t h)
    | .accStr o => gd (cN nm e) fun q => gd (un1 q.2) fun y => q.1 == ("str" : Str) && nsl y && chkE m nm sc y o
    | _ => false
noncomputable def chkO : Nat → Nm → Sc → Option Expr → Option PE → Bool
  | 0, _, _, _, _ => false
  | m + 1, nm, sc, e, p => match p with
    | none => e.isNone
    | some p => gd e fun e => chkE m nm sc e p
noncomputable def chkL : Nat → Nm → Sc → List Expr → List PE → Bool
  | 0, _, _, _, _ => false
  | m + 1, nm, sc, l, ps => match ps with
    | [] => isN l
    | p :: ps => (match l with | e :: l => nsl e && chkE m nm sc e p && chkL m nm sc l ps | [] => false)
noncomputable def chkT : Nat → Nm → Sc → Expr → PE → Bool
  | 0, _, _, _, _ => false
  | m + 1, nm, sc, e, p => match p with
    | .bnot a => gd (dUn e) fun q => q.1 == .Not && chkT m nm sc q.2 a
    | .band l => gd (dBool e) fun q => q.1 == .And && chkTs m nm sc q.2 l
    | .bor l => gd (dBool e) fun q => q.1 == .Or && chkTs m nm sc q.2 l
    | .cmp1 op a b => gd (dCmp e) fun q => gd (un1 q.2.1) fun o => gd (un1 q.2.2) fun y => o == op && nset y && chkE m nm sc q.1 a && chkE m nm sc y b
    | .cmp2 o₁ o₂ a b c => gd (dCmp e) fun q => gd (un2 q.2.1) fun o => gd (un2 q.2.2) fun y => o.1 == o₁ && o.2 == o₂ && nset y.2 && chkE m nm sc q.1 a && chkE m nm sc y.1 b && chkE m nm sc y.2 c
    | .var i => gd (dNameP e) fun X => okName X.1 && decide ((X.1, i) ∈ sc)
    | .bin op a b => (dBin e).isSome && chkE m nm sc e (.bin op a b)
    | _ => false
noncomputable def chkTs : Nat → Nm → Sc → List Expr → List PE → Bool
  | 0, _, _, _, _ => false
  | m + 1, nm, sc, l, ps => match ps with
    | [] => isN l
    | p :: ps => (match l with | e :: l => chkT m nm sc e p && chkTs m nm sc l ps | [] => false)
end
noncomputable def lstOf (p : PE) : Option (List PE) := match p with | .lst l => some l | _ => none
theorem lstOf_ok {p : PE} {l : List PE} (h : lstOf p = some l) : p = .lst l := by
  cases p <;> first | exact bad h | exact congrArg PE.lst (Option.some.inj h)
theorem or_ok {a b : Bool} (h : (a || b) = true) : a = true ∨ b = true := by
  cases a with
  | true => exact .inl rfl
  | false => exact .inr h
noncomputable def isComp : PE → Bool := fun p => match p with | .comp .. => true | _ => false
theorem isComp_ok {p : PE} (h : isComp p = true) : ∃ e x it c, p = .comp e x it c := by
  cases p <;> first | exact Bool.noConfusion h | exact ⟨_, _, _, _, rfl⟩
noncomputable def sA (s : Stmt) : Option ((Str × Pos) × Expr) := (dAsg s).bind fun q => (un1 q.1).bind fun t => (dNameP t).map fun X => (X, q.2)
theorem sA_ok {s : Stmt} {q} (h : sA s = some q) : ∃ pos, s = .Assign [.Name q.1.1 q.1.2] q.2 pos := by
  refine nng fun nG => ?_
  obtain ⟨x, h1, h⟩ := bd_ok h
  obtain ⟨y, h2, h⟩ := bd_ok h
  obtain ⟨z, h3, h⟩ := mp_ok h
  cases h
  obtain ⟨pos, e⟩ := dAsg_ok h1
  refine nG ?_
  clear nG
  rw [e, un1_ok h2, dNameP_ok h3]
  exact ⟨pos, rfl⟩
mutual
noncomputable def chkS : Nat → Nm → Sc → Stmt → PS → Bool
  | 0, _, _, _, _ => false
  | m + 1, nm, sc, s, p => match p with
    | .asg i pe => gd (sA s) fun q => decide ((q.1.1, i) ∈ sc) && lc nm q.1.1 && chkE g m nm sc q.2 pe && (match cL q.2 with | some _ => isComp pe | none => nocomp q.2)
    | .asgM i pe => gd (sA s) fun q => decide ((q.1.1, i) ∈ sc) && lc nm q.1.1 && ((gd (cL q.2) fun r => isComp pe && chkE g m nm sc q.2 pe && !swB (fun x => nm.lookup x) q.1.1 q.1.2 r.scope r.cp) || (gd (lstOf pe) fun l => nocomp q.2 && gd (dLst q.2) fun xs => decide (xs.length ≤ lid) && chkL g m nm sc xs l))
    | .asgT is pe => gd (dAsg s) fun q => gd (un1 q.1) fun t => gd (dTup t) fun ts => gd (tgts ts) fun l => tgtChk nm sc l is && ntup q.2 && nocomp q.2 && chkE g m nm sc q.2 pe
    | .seti i k pe => gd (dAsg s) fun q => gd (un1 q.1) fun t => gd (dSub t) fun r => gd (dNameP r.1) fun X => okName X.1 && decide ((X.1, i) ∈ sc) && nocomp q.2 && chkE g m nm sc q.2 pe && chkE g m nm sc r.2 k
    | .ifs c a b => gd (dIf s) fun q => chkT g m nm sc q.1 c && chkB m nm sc q.2.1 a && chkB m nm sc q.2.2 b
    | .for1 tg it b => gd (dFor s) fun q => isN q.2.2.2 && tgChk nm sc tg q.1 && nset q.2.1 && chkE g m nm sc q.2.1 it && chkB m nm sc q.2.2.1 b
    | .whl c b => gd (dWhile s) fun q => isN q.2.2 && chkT g m nm sc q.1 c && chkB m nm sc q.2.1 b
    | .brk => (dBreak s).isSome
    | .ret pe => gd (dRet s) fun q => gd q fun e => chkE g m nm sc e pe
    | .ex pe => gd (dEx s) fun e => nocomp e && chkE g m nm sc e pe
noncomputable def chkB : Nat → Nm → Sc → List Stmt → List PS → Bool
  | 0, _, _, _, _ => false
  | m + 1, nm, sc, l, ps => match ps with
    | [] => isN l
    | p :: ps => (match l with | s :: l => chkS m nm sc s p && chkB m nm sc l ps | [] => false)
end
end Mine.Internal
end
section
open PySem PySem.W PySem.Calls PyProof.Rows PySem.Builtin
set_option Elab.async false
set_option linter.unusedVariables false
namespace Mine.Internal

noncomputable def FnTab (c : Cx) (F : Nat → Option PF) (g : Gn) (f : Nat) (a : Addr) : Prop :=
  ∃ fd body names sc pf m, F f = some pf ∧ FnIs c a fd body names pf.params sc ∧ chkB g m fd.scope.names sc body pf.body = true
structure TB (c : Cx) (F : Nat → Option PF) (g : Gn) : Prop where
  O : Ok c
  fnv : ∀ f : Fn, globIn c.K f.name = some f.val
  cst : ∀ X d, g.cst X = some d → ∃ v, globIn c.K X = some v ∧ ∀ P ρ, Lay P ρ v d
  pat : ∀ X k, g.pat X = some k → ∃ pa, globIn c.K X = some (.ref pa) ∧ ∀ h, c.K.In h → Pat h pa (if k = 1 then code1 else code2)
  fn : ∀ X f, g.fn X = some f → ∃ a, globIn c.K X = some (.ref a) ∧ isFn c.K a = true ∧ FnTab c F g f a
  cls : globIn c.K g.cls = some (.ref c.C)
  init : ∃ fI, InitK c fI
  kls : ClsK c.K c.C
  app : findIn c.K (.ref c.C) "append" = some (some (.builtin "list.append"))
  meth : ∀ X f, g.meth X = some f → ∃ a, findIn c.K (.ref c.C) X = some (some (.ref a)) ∧ typeIn c.K (.ref a) = some (.type "function") ∧ isFn c.K a = true ∧ FnTab c F g f a
  cnt : ∃ fN, CountK c fN ∧ isFn c.K fN = true
  cntN : g.cnt = "part_count"
  pop : ∃ fN fO, PopK c fN fO ∧ isFn c.K fO = true
  popN : g.pop = "pop"
  popF : ∃ fP v0, PopFK c fP v0 ∧ isFn c.K fP = true
  str : ∃ fS, StrK c fS

section
variable {c : Cx} {F : Nat → Option PF} {g : Gn} {n : Nat}
noncomputable abbrev kdN (nm : Nm) : Str → Option NameKind := fun x => nm.lookup x

structure Snd (c : Cx) (F : Nat → Option PF) (g : Gn) (n : Nat) : Prop where
  E : ∀ m nm sc e p, chkE g m nm sc e p = true → ∀ A σ st d st', Rm (3 * n) A → ev F n σ st p = some (d, st') → EvE c A (kdN nm) sc e σ st d st'
  P : ∀ m nm sc e p, chkP g m nm sc e p = true → ∀ A σ st d st', Rm (3 * n) A → ev F n σ st p = some (d, st') → EvP c A (kdN nm) sc e σ st d st'
  O : ∀ m nm sc e p, chkO g m nm sc e p = true → ∀ A σ st d st', Rm (3 * n) A → evO F n σ st p = some (d, st') → EvO c A (kdN nm) sc e σ st d st'
  L : ∀ m nm sc e p, chkL g m nm sc e p = true → ∀ A σ st d st', Rm (3 * n) A → evs F n σ st p = some (d, st') → EvL c A (kdN nm) sc e σ st d st' ∧ d.length = e.length
  T : ∀ m nm sc e p, chkT g m nm sc e p = true → ∀ A σ st d st', Rm (3 * n) A → evT F n σ st p = some (d, st') → EvT c A (kdN nm) sc e σ st d st'
  And : ∀ m nm sc e p, chkTs g m nm sc e p = true → ∀ A σ st d st', Rm (3 * n) A → evAnd F n σ st p = some (d, st') → EvTs c A (kdN nm) sc .And e σ st d st'
  Or : ∀ m nm sc e p, chkTs g m nm sc e p = true → ∀ A σ st d st', Rm (3 * n) A → evOr F n σ st p = some (d, st') → EvTs c A (kdN nm) sc .Or e σ st d st'
  C : ∀ f a, FnTab c F g f a → ∀ A ds st d st', Rm (3 * n) A → callF F n f ds st = some (d, st') → CallE c A (.ref a) ds st d st'
  X : ∀ m nm sc e p, chkS g m nm sc e p = true → ∀ A σ st fl σ' st', Rm (3 * n) A → exec1 F n σ st p = some (fl, σ', st') → ExS c A (kdN nm) sc e σ st fl σ' st'
  B : ∀ m nm sc e p, chkB g m nm sc e p = true → ∀ A σ st fl σ' st', Rm (3 * n) A → run F n σ st p = some (fl, σ', st') → ExL c A (kdN nm) sc e σ st fl σ' st'

theorem snd0 : Snd c F g 0 := ⟨fun _ _ _ _ _ _ _ _ _ _ _ _ h => bad h, fun _ _ _ _ _ _ _ _ _ _ _ _ h => bad h, fun _ _ _ _ _ _ _ _ _ _ _ _ h => bad h, fun _ _ _ _ _ _ _ _ _ _ _ _ h => bad h, fun _ _ _ _ _ _ _ _ _ _ _ _ h => bad h,
  fun _ _ _ _ _ _ _ _ _ _ _ _ h => bad h, fun _ _ _ _ _ _ _ _ _ _ _ _ h => bad h, fun _ _ _ _ _ _ _ _ _ h => bad h, fun _ _ _ _ _ _ _ _ _ _ _ _ _ h => bad h, fun _ _ _ _ _ _ _ _ _ _ _ _ _ h => bad h⟩
theorem Rm.dn {n : Nat} {A : Around} (R : Rm (3 * (n + 1)) A) : Rm (3 * n) A := R.le (Nat.mul_le_mul_left 3 (Nat.le_succ n))

theorem sndO (S : Snd c F g n) (m nm sc e p) (hc : chkO g m nm sc e p = true) (A σ st d st') (R : Rm (3 * n) A) (h : evO F (n + 1) σ st p = some (d, st')) : EvO c A (kdN nm) sc e σ st d st' := by
  cases m with
  | zero => exact Bool.noConfusion hc
  | succ m =>
    cases p with
    | none =>
      cases e with
      | some e => exact Bool.noConfusion hc
      | none => exact pr_el (x := (none, st)) h o_none
    | some p => exact gd_el hc fun e' h1 hc => mp_el h fun x hx => by rw [show e = some e' from h1]; exact o_some (S.E m nm sc _ p hc A σ st _ _ R hx)
theorem sndL (S : Snd c F g n) (m nm sc e p) (hc : chkL g m nm sc e p = true) (A σ st d st') (R : Rm (3 * n) A) (h : evs F (n + 1) σ st p = some (d, st')) : EvL c A (kdN nm) sc e σ st d st' ∧ d.length = e.length := by
  cases m with
  | zero => exact Bool.noConfusion hc
  | succ m =>
    cases p with
    | nil => rw [isN_ok hc]; exact pr_el (x := ([], st)) (P := fun d st' => EvL c A (kdN nm) sc [] σ st d st' ∧ d.length = 0) h ⟨l_nil, rfl⟩
    | cons p ps =>
      cases e with
      | nil => exact Bool.noConfusion hc
      | cons e l =>
        exact an3_el hc fun h1 h2 h3 => bd_el h fun x hx h => mp_el (P := fun d st' => EvL c A (kdN nm) sc (e :: l) σ st d st' ∧ d.length = l.length + 1) h fun y hy =>
          (S.L m nm sc l ps h3 A σ _ _ _ R hy).elim fun q1 q2 => ⟨l_cons h1 (S.E m nm sc e p h2 A σ st _ _ R hx) q1, congrArg Nat.succ q2⟩
theorem sndAnd (S : Snd c F g n) (m nm sc e p) (hc : chkTs g m nm sc e p = true) (A σ st d st') (R : Rm (3 * n) A) (h : evAnd F (n + 1) σ st p = some (d, st')) : EvTs c A (kdN nm) sc .And e σ st d st' := by
  cases m with
  | zero => exact Bool.noConfusion hc
  | succ m =>
    cases p with
    | nil => rw [isN_ok hc]; exact pr_el (x := (true, st)) h and_nil
    | cons p ps =>
      cases e with
      | nil => exact Bool.noConfusion hc
      | cons e l =>
        refine an2_el hc fun h1 h2 => bd_el h fun x hx h => ?_
        have he := S.T m nm sc e p h1 A σ st _ _ R hx
        clear hc hx
        obtain ⟨b, s1⟩ := x
        cases b with
        | true => exact and_go he (S.And m nm sc l ps h2 A σ _ _ _ R h)
        | false => exact pr_el (x := (false, s1)) h (and_stop he)
theorem sndOr (S : Snd c F g n) (m nm sc e p) (hc : chkTs g m nm sc e p = true) (A σ st d st') (R : Rm (3 * n) A) (h : evOr F (n + 1) σ st p = some (d, st')) : EvTs c A (kdN nm) sc .Or e σ st d st' := by
  cases m with
  | zero => exact Bool.noConfusion hc
  | succ m =>
    cases p with
    | nil => rw [isN_ok hc]; exact pr_el (x := (false, st)) h or_nil
    | cons p ps =>
      cases e with
      | nil => exact Bool.noConfusion hc
      | cons e l =>
        refine an2_el hc fun h1 h2 => bd_el h fun x hx h => ?_
        have he := S.T m nm sc e p h1 A σ st _ _ R hx
        clear hc hx
        obtain ⟨b, s1⟩ := x
        cases b with
        | false => exact or_go he (S.Or m nm sc l ps h2 A σ _ _ _ R h)
        | true => exact pr_el (x := (true, s1)) h (or_stop he)
theorem sndB (S : Snd c F g n) (m nm sc e p) (hc : chkB g m nm sc e p = true) (A σ st fl σ' st') (R : Rm (3 * n) A) (h : run F (n + 1) σ st p = some (fl, σ', st')) : ExL c A (kdN nm) sc e σ st fl σ' st' := by
  cases m with
  | zero => exact Bool.noConfusion hc
  | succ m =>
    cases p with
    | nil => rw [isN_ok hc]; exact pr3_el (x := (Fl.next, σ, st)) h x_nil
    | cons p ps =>
      cases e with
      | nil => exact Bool.noConfusion hc
      | cons e l =>
        refine an2_el hc fun h1 h2 => bd_el h fun x hx h => ?_
        have he := S.X m nm sc e p h1 A σ st _ _ _ R hx
        clear hc hx
        obtain ⟨f1, s1, t1⟩ := x
        cases f1 with
        | next => exact x_next he (S.B m nm sc l ps h2 A _ _ _ _ _ R h)
        | brk => exact pr3_el (x := (Fl.brk, s1, t1)) h (x_stop he)
        | ret d => exact pr3_el (x := (Fl.ret d, s1, t1)) h (x_ret he)
theorem sndC (T : TB c F g) (S : Snd c F g n) (f a) (ht : FnTab c F g f a) (A ds st d st') (R : Rm (3 * (n + 1)) A) (h : callF F (n + 1) f ds st = some (d, st')) : CallE c A (.ref a) ds st d st' := by
  refine nng fun nG => ?_
  obtain ⟨fd, body, names, sc, pf, m, hF, H, hchk⟩ := ht
  have h : (match F f with
    | some pf => (setAll pf.params ds []).bind fun σ => match D.refsLts 0 ds && !pf.opn with
      | true => (run F n σ [] pf.body).bind fun r => match r.1 with
        | .ret d => (frz r.2.2 6 d).map fun d => (d, st)
        | .next => some (.none, st)
        | .brk => .none
      | false => (run F n σ st pf.body).bind fun r => match r.1 with
        | .ret d => some (d, r.2.2)
        | .next => some (.none, r.2.2)
        | .brk => .none
    | .none => .none) = some (d, st') := h
  rw [hF] at h
  obtain ⟨σ, hσ, h⟩ := bd_ok h
  refine nG ?_
  clear nG
  have R' : Rm (3 * n + 1) A := R.le (by omega)
  have hb : ∀ st fl σ' s1, run F n σ st pf.body = some (fl, σ', s1) → ∀ A, Rm (3 * n) A → ExL c A (fun x => fd.scope.names.lookup x) sc body σ st fl σ' s1 := fun st fl σ' s1 hr A RA => S.B m _ _ _ _ hchk A _ _ _ _ _ RA hr
  clear hF hchk S
  cases hd : D.refsLts 0 ds && !pf.opn with
  | true =>
    rw [hd] at h
    have hd0 := (an2 hd).1
    clear hd
    refine bd_el h fun x hr h => ?_
    have hb' := hb _ _ _ _ hr
    clear hr hb
    obtain ⟨fl, σ', s1⟩ := x
    cases fl with
    | next => exact pr_el (x := (.none, st)) h (call_closed (fl := .next) (m := 1) T.O R' H hd0 hσ rfl hb')
    | brk => exact bad h
    | ret e => exact mp_el h fun e' he => call_closed (fl := .ret _) T.O R' H hd0 hσ he hb'
  | false =>
    rw [hd] at h
    clear hd
    refine bd_el h fun x hr h => ?_
    have hb' := hb _ _ _ _ hr
    clear hr hb
    refine nng fun nG => ?_
    obtain ⟨fl, σ', s1⟩ := x
    refine nG ?_
    clear nG
    cases fl with
    | next => exact pr_el (x := (.none, s1)) h (call_open (fl := .next) T.O R' H hσ hb')
    | brk => exact bad h
    | ret e => exact pr_el (x := (e, s1)) h (call_open (fl := .ret _) T.O R' H hσ hb')
end
end Mine.Internal
end
section
open PySem PySem.W PySem.Calls PyProof.Rows PySem.Builtin
set_option Elab.async false
set_option linter.unusedVariables false
namespace Mine.Internal
section
variable {c : Cx} {F : Nat → Option PF} {g : Gn} {n : Nat}

theorem gi_ok {nm : Nm} {X : Str} (h : gi nm X = true) : kdN nm X = some .globalImplicit ∧ okName X = true := by
  unfold gi at h
  simpa using h
theorem t_int {A : Around} {kd : Str → Option NameKind} {sc : List (Str × Nat)} {σ : Vars} {st st₁ : Store} {pos : Pos} {a b : Expr} {op : Operator} {i : Int} (h : EvE c A kd sc (.BinOp a op b pos) σ st (.int i) st₁) : EvT c A kd sc (.BinOp a op b pos) σ st (i != 0) st₁ := by
  intro env fm ρ s F W V Q hQ
  refine wpAny_isTrue_value (h env fm ρ s F W V _ fun v s1 ρ1 W1 A1 l => ?_)
  cases l
  first | exact PySem.PureInt.truthy_int (hQ s1 ρ1 W1 A1) | exact PySem.truthy_int (hQ s1 ρ1 W1 A1) | exact PyProof.Rows.truthy_int (hQ s1 ρ1 W1 A1) | exact PyProof.Rows.RuleU.truthy_int (hQ s1 ρ1 W1 A1) | exact truthy_int (hQ s1 ρ1 W1 A1)
theorem t_int' {A : Around} {kd : Str → Option NameKind} {sc : List (Str × Nat)} {σ : Vars} {st st₁ : Store} {e : Expr} {q} {d : D} {i : Int} (hb : dBin e = some q) (hd : dI d = some i) (h : EvE c A kd sc e σ st d st₁) : EvT c A kd sc e σ st (i != 0) st₁ := by
  obtain ⟨p, e1⟩ := dBin_ok hb
  rw [dI_ok hd] at h
  rw [e1] at h ⊢
  exact t_int h
theorem un_is {e : Expr} {q : UnaryOp × Expr} {o} (h : dUn e = some q) (h2 : (q.1 == o) = true) : ∃ p, e = .UnaryOp o q.2 p := (dUn_ok h).elim fun p e1 => ⟨p, e1.trans (congrArg (fun z => Expr.UnaryOp z q.2 p) (eq_of_beq h2))⟩
theorem bool_is {e : Expr} {q : BoolOp × List Expr} {o} (h : dBool e = some q) (h2 : (q.1 == o) = true) : ∃ p, e = .BoolOp o q.2 p := (dBool_ok h).elim fun p e1 => ⟨p, e1.trans (congrArg (fun z => Expr.BoolOp z q.2 p) (eq_of_beq h2))⟩
theorem bin_is {e : Expr} {q : Expr × Operator × Expr} {o} (h : dBin e = some q) (h2 : (q.2.1 == o) = true) : ∃ p, e = .BinOp q.1 o q.2.2 p := (dBin_ok h).elim fun p e1 => ⟨p, e1.trans (congrArg (fun z => Expr.BinOp q.1 z q.2.2 p) (eq_of_beq h2))⟩
theorem cmp1_is {e : Expr} {q : Expr × List CmpOp × List Expr} {o op y} (h1 : dCmp e = some q) (h2 : un1 q.2.1 = some o) (h3 : un1 q.2.2 = some y) (h4 : (o == op) = true) : ∃ p, e = .Compare q.1 [op] [y] p := by
  obtain ⟨p1, e1⟩ := dCmp_ok h1
  rw [e1, un1_ok h2, un1_ok h3, eq_of_beq h4]; exact ⟨p1, rfl⟩
theorem cmp2_is {e : Expr} {q : Expr × List CmpOp × List Expr} {o o₁ o₂ y} (h1 : dCmp e = some q) (h2 : un2 q.2.1 = some o) (h3 : un2 q.2.2 = some y) (h4 : (o.1 == o₁) = true) (h5 : (o.2 == o₂) = true) : ∃ p, e = .Compare q.1 [o₁, o₂] [y.1, y.2] p := by
  obtain ⟨p1, e1⟩ := dCmp_ok h1
  rw [e1, un2_ok h2, un2_ok h3, eq_of_beq h4, eq_of_beq h5]; exact ⟨p1, rfl⟩
section
variable {A : Around} {kd : Str → Option NameKind} {sc : List (Str × Nat)} {σ σ' : Vars} {st st' : Store} {e e' : Expr} {d d' : D} {r : Bool}
theorem ee_el (h : e = e') (k : EvE c A kd sc e' σ st d st') : EvE c A kd sc e σ st d st' := by rw [h]; exact k
theorem ed_el (h : d = d') (k : EvE c A kd sc e σ st d st') : EvE c A kd sc e σ st d' st' := by rw [← h]; exact k
theorem et_el (h : e = e') (k : EvT c A kd sc e' σ st r st') : EvT c A kd sc e σ st r st' := by rw [h]; exact k
theorem ep_el (h : e = e') (k : EvP c A kd sc e' σ st d st') : EvP c A kd sc e σ st d st' := by rw [h]; exact k
theorem xs_el {s s' : Stmt} {fl} (h : s = s') (k : ExS c A kd sc s' σ st fl σ' st') : ExS c A kd sc s σ st fl σ' st' := by rw [h]; exact k
end
theorem sndT (S : Snd c F g n) (m nm sc e p) (hc : chkT g m nm sc e p = true) (A σ st d st') (R' : Rm (3 * n) A) (h : evT F (n + 1) σ st p = some (d, st')) : EvT c A (kdN nm) sc e σ st d st' := by
  cases m with
  | zero => exact Bool.noConfusion hc
  | succ m =>
    cases p with
    | bnot a => exact gd_el hc fun q h1 hc => an2_el hc fun h2 h3 => mp_el h fun x hx => (un_is h1 h2).elim fun p e1 => et_el e1 (t_not (S.T m nm sc _ _ h3 A σ st _ _ R' hx))
    | band l => exact gd_el hc fun q h1 hc => an2_el hc fun h2 h3 => (bool_is h1 h2).elim fun p e1 => et_el e1 (t_bool (S.And m nm sc _ _ h3 A σ st _ _ R' h))
    | bor l => exact gd_el hc fun q h1 hc => an2_el hc fun h2 h3 => (bool_is h1 h2).elim fun p e1 => et_el e1 (t_bool (S.Or m nm sc _ _ h3 A σ st _ _ R' h))
    | cmp1 op a b =>
      exact gd_el hc fun q h1 kc => gd_el kc fun o h2 kc => gd_el kc fun y h3 kc => an4_el kc fun h4 h5 h6 h7 => bd_el h fun x hx h => bd_el h fun y hy h => mp_el h fun r hr =>
        (cmp1_is h1 h2 h3 h4).elim fun p e1 => et_el e1 (t_cmp R' h5 (S.E m nm sc _ _ h6 A σ st _ _ R' hx) (S.E m nm sc _ _ h7 A σ _ _ _ R' hy) hr)
    | cmp2 o₁ o₂ a b c' =>
      refine gd_el hc fun q h1 kc => gd_el kc fun o h2 kc => gd_el kc fun y h3 kc => an6_el kc fun h4 h4' h5 h6 h7 h8 => bd_el h fun x hx h => bd_el h fun y hy h => bd_el h fun r hr h => (cmp2_is h1 h2 h3 h4 h4').elim fun p e1 => et_el e1 ?_
      have hX := S.E m nm sc _ _ h6 A σ st _ _ R' hx
      have hY := S.E m nm sc _ _ h7 A σ _ _ _ R' hy
      cases r with
      | true => exact bd_el h fun z hz h => mp_el h fun q hq => t_chain R' h5 hX hY hr ⟨S.E m nm sc _ _ h8 A σ _ _ _ R' hz, hq⟩
      | false => exact pr_el (x := (false, y.2)) h (t_chain (z := .none) R' h5 hX hY hr ⟨rfl, rfl⟩)
    | var i => exact gd_el hc fun q h1 hc => an2_el hc fun h2 h3 => mp_el h fun x hx => bd_el hx fun y hy hb => et_el (dNameP_ok h1) (t_var h2 (of_decide_eq_true h3) (hy.trans (congrArg some (dB_ok hb))))
    | bin op a b => exact an2_el hc fun h1 hc => (Option.isSome_iff_exists.mp h1).elim fun q h1 => bd_el h fun x hx h => mp_el h fun i hi => t_int' h1 hi (S.E m nm sc _ _ hc A σ st _ _ R' hx)
    | _ => exact Bool.noConfusion hc

noncomputable def CompK (c : Cx) (A : Around) (nm : Nm) (sc : Sc) (e : Expr) (σ : Vars) (st : Store) (d : D) (st' : Store) (P : Prop) : Prop :=
  ∀ (tg : Tg) (q : LcD) out x st₁ src testF eltF, cL e = some q → d = .lst out → CC (kdN nm) sc (compSc nm sc q.scope (tvOf tg q.te)) q.scope (tvOf tg q.te) q.te tg → (∀ env x, foldedSetIterable q.iter env x = pure x) → EvE c A (kdN nm) sc q.iter σ st x st₁ → srcOf tg x = some src → compGo testF eltF src tg σ lid 0 st₁ [] = some (out, st') →
      (∀ σ st b st', testF σ st = some (b, st') → TestOk c A (relK (kdN nm) q.scope.names) (compSc nm sc q.scope (tvOf tg q.te)) q.ifs σ st b st') → (∀ σ st d st', eltF σ st = some (d, st') → EvE c A (relK (kdN nm) q.scope.names) (compSc nm sc q.scope (tvOf tg q.te)) q.el σ st d st') → P
theorem sndComp (S : Snd c F g n) {m : Nat} {nm : Nm} {sc : Sc} {e : Expr} {ep it : PE} {tg : Tg} {cc : Option PE}
    (hc : chkE g (m + 1) nm sc e (.comp ep tg it cc) = true) {A : Around} {σ : Vars} {st st' : Store} {d : D} (R : Rm (3 * n) A) (h : ev F (n + 1) σ st (.comp ep tg it cc) = some (d, st')) {P : Prop} (k : CompK c A nm sc e σ st d st' P) : P := by
  revert k
  refine gd_el hc fun q hq hc => an5_el hc fun h1 h2 h3 h4 h5 => bd_el h fun x hx h => bd_el h fun src hsrc h => mp_el (P := fun d st' => CompK c A nm sc e σ st d st' P → P) h fun y hg k => k tg q y.1 _ _ src _ _ hq rfl (compChk_ok h1) (fun env x => fsi h2 env x) (S.E m nm sc _ _ h3 A σ st _ _ R hx) hsrc hg (fun σ st b st' e => ?_) fun σ st d st' e => S.E m (relNm nm q.scope.names) _ _ _ h4 A σ st _ _ R e
  clear k hg h hsrc hx h1 h2 h3 h4
  cases cc with
  | none => rw [isN_ok h5]; exact pr_el (x := (true, st)) e test_nil
  | some c' => exact gd_el h5 fun t ht h5 => by rw [un1_ok ht]; exact test_one (S.T m (relNm nm q.scope.names) _ _ _ h5 A σ st _ _ R e)
theorem sndComp' (SS : ∀ k, k ≤ n → Snd c F g k) {m : Nat} {nm : Nm} {sc : Sc} {e : Expr} {pe : PE} (hp : isComp pe = true) (hc : chkE g m nm sc e pe = true) {A : Around} {σ : Vars} {st st' : Store} {d : D} (R : Rm (3 * n) A) (h : ev F n σ st pe = some (d, st')) {P : Prop} (k : CompK c A nm sc e σ st d st' P) : P := by
  cases m with
  | zero => exact Bool.noConfusion hc
  | succ m =>
    cases n with
    | zero => exact bad h
    | succ n =>
      obtain ⟨ep, ix, it, cc, rfl⟩ := isComp_ok hp
      exact sndComp (SS n (Nat.le_succ n)) hc R.dn h k

end
end Mine.Internal
end
section
open PySem PySem.W PySem.Calls PyProof.Rows PySem.Builtin
set_option Elab.async false
set_option linter.unusedVariables false
namespace Mine.Internal
section
variable {c : Cx} {F : Nat → Option PF} {g : Gn} {n : Nat}

theorem ble_no {b : Bool} (h : (!b) = true) : b = false := by
  cases b with
  | false => rfl
  | true => exact Bool.noConfusion h
theorem asg_or {e : Expr} {pe : PE} (h : (match cL e with | some _ => isComp pe | none => nocomp e) = true) : isComp pe = true ∨ nocomp e = true := by
  revert h
  cases cL e with
  | none => exact .inr
  | some r => exact .inl
theorem sndAsg (SS : ∀ k, k ≤ n → Snd c F g k) (S : Snd c F g n) {m nm sc s i pe} (hc : chkS g (m + 1) nm sc s (.asg i pe) = true) {A σ st fl σ' st'} (R' : Rm (3 * n) A) (h : exec1 F (n + 1) σ st (.asg i pe) = some (fl, σ', st')) : ExS c A (kdN nm) sc s σ st fl σ' st' := by
  refine gd_el hc fun q h1 hc => an4_el hc fun g1 h2 h3 h4 => mp3_el h fun x hx => (sA_ok h1).elim fun pos e1 => ?_
  have hE := S.E m nm sc _ _ h3 A σ st _ _ R' hx
  have g1 := of_decide_eq_true g1
  rcases asg_or h4 with h4 | h4
  · refine sndComp' SS h4 h3 R' hx fun tg q' out y s1 src testF eltF er ed q1 q2 q3 q4 q6 q7 q8 => ?_
    clear SS S hc h h1 h3 hx h4
    cases hs : swB (kdN nm) q.1.1 q.1.2 q'.scope q'.cp with
    | true => rw [e1, cL_ok er, ed]; exact x_swap R' g1 (lc_ok h2) hs q1 q2 q3 q4 (Nat.le_refl _) q6 q7 q8
    | false => exact xs_el e1 (x_asg g1 (lc_ok h2) (fun env e1 e2 => by rw [cL_ok er]; exact (swap_is e1 e2).trans (congrArg pure hs)) hE)
  · exact xs_el e1 (x_asg g1 (lc_ok h2) (fun env _ _ => nocomp_swap h4 _ _ _) hE)
theorem lst_same {d : D} {l r} (h : dL d = some l) (h2 : d = .lst r) : l = r := D.lst.inj ((dL_ok h).symm.trans h2)
theorem sndAsgM (SS : ∀ k, k ≤ n → Snd c F g k) {m nm sc s i pe} (hc : chkS g (m + 1) nm sc s (.asgM i pe) = true) {A σ st fl σ' st'} (R' : Rm (3 * n) A) (h : exec1 F (n + 1) σ st (.asgM i pe) = some (fl, σ', st')) : ExS c A (kdN nm) sc s σ st fl σ' st' := by
  refine gd_el hc fun q h1 hc => an3_el hc fun g1 h2 h3 => bd_el h fun x hx h => mp3_el h fun ds hd => (sA_ok h1).elim fun pos e1 => ?_
  have g1 := of_decide_eq_true g1
  clear hc h h1
  rcases or_ok h3 with h3 | h3
  · refine gd_el h3 fun r hcl h3 => an3_el h3 fun h4 h3 hs => sndComp' SS h4 h3 R' hx fun tg q' out y s1 src testF eltF er ed q1 q2 q3 q4 q6 q7 q8 => ?_
    clear h3
    rw [e1, cL_ok er, lst_same hd ed]
    rw [Option.some.inj (hcl.symm.trans er)] at hs
    exact x_asgM g1 (lc_ok h2) (fun env e1 e2 => (swap_is e1 e2).trans (congrArg pure (ble_no hs))) (new_comp R' q1 q2 q3 q4 (Nat.le_refl _) q6 q7 q8)
  · refine gd_el h3 fun l hl h3 => an2_el h3 fun g2 h3 => gd_el h3 fun xs g3 h3 => an2_el h3 fun g4 g5 => (dLst_ok g3).elim fun p e2 => ?_
    clear h3
    rw [lstOf_ok hl] at hx
    cases n with
    | zero => exact bad hx
    | succ n =>
      obtain ⟨y, hy, rfl⟩ := mp_ok hx
      obtain ⟨q1, q2⟩ := (SS n (Nat.le_succ n)).L m nm sc _ _ g5 A σ st _ _ R'.dn hy
      rw [e1, ← Option.some.inj (show some y.1 = some ds from hd)]
      exact x_asgM g1 (lc_ok h2) (fun env _ _ => nocomp_swap g2 _ _ _) (by rw [e2]; exact new_lst q1 (of_decide_eq_true g4) q2)
theorem sndAsgT (S : Snd c F g n) {m nm sc s is pe} (hc : chkS g (m + 1) nm sc s (.asgT is pe) = true) {A σ st fl σ' st'} (R' : Rm (3 * n) A) (h : exec1 F (n + 1) σ st (.asgT is pe) = some (fl, σ', st')) : ExS c A (kdN nm) sc s σ st fl σ' st' := by
  refine gd_el hc fun q h1 hc => gd_el hc fun t ht hc => gd_el hc fun ts hl hc => gd_el hc fun l hl' hc => an4_el hc fun g1 h2 h3 h4 => bd_el h fun x hx h => bd_el h fun ds hd h => mp3_el h fun s2 hs2 => (dAsg_ok h1).elim fun pos e1 => (dTup_ok hl).elim fun k e2 => e2.elim fun p e2 => ?_
  exact xs_el (s' := .Assign [.Tuple (l.map nmE) k p] q.2 pos) (by rw [e1, un1_ok ht, e2, tgts_ok hl']) (x_asgT R' (tgtChk_ok g1) h2 h3 (ed_el (dT_ok hd) (S.E m nm sc _ _ h4 A σ st _ _ R' hx)) hs2 (setAll_len hs2))
theorem sndSeti (S : Snd c F g n) {m nm sc s i k pe} (hc : chkS g (m + 1) nm sc s (.seti i k pe) = true) {A σ st fl σ' st'} (R' : Rm (3 * n) A) (h : exec1 F (n + 1) σ st (.seti i k pe) = some (fl, σ', st')) : ExS c A (kdN nm) sc s σ st fl σ' st' := by
  refine gd_el hc fun q h1 hc => gd_el hc fun t ht hc => gd_el hc fun r hl hc => gd_el hc fun X hl' hc => an5_el hc fun g1 g2 g3 g4 g5 => (dAsg_ok h1).elim fun pos e1 => (dSub_ok hl).elim fun p e2 => xs_el (s' := .Assign [.Subscript (.Name X.1 X.2) r.2 p] q.2 pos) (by rw [e1, un1_ok ht, e2, dNameP_ok hl']) ?_
  clear hc h1 ht hl hl' e1 e2
  exact bd_el h fun x hx h => bd_el h fun y hy h => bd_el h fun o hr h => bd_el h fun ml hq h => bd_el h fun j hk h => if_el h fun h6 h => pr3_el (x := (Fl.next, σ, y.2.set ml.1 (.ml (ml.2.set j.toNat x.1)))) h
    (x_seti g1 (of_decide_eq_true g2) g3 (S.E m nm sc _ _ g4 A σ st _ _ R' hx) (ed_el (dI_ok hk) (S.E m nm sc _ _ g5 A σ _ _ _ R' hy)) (hr.trans (congrArg some (getMl_ok hq).1)) (getMl_ok hq).2 h6.1 h6.2.1 h6.2.2)
theorem sndX (SS : ∀ k, k ≤ n → Snd c F g k) (m nm sc s p) (hc : chkS g m nm sc s p = true) (A σ st fl σ' st') (R' : Rm (3 * n) A) (h : exec1 F (n + 1) σ st p = some (fl, σ', st')) : ExS c A (kdN nm) sc s σ st fl σ' st' := by
  have S := SS n (Nat.le_refl n)
  cases m with
  | zero => exact Bool.noConfusion hc
  | succ m =>
    cases p with
    | asg i pe => exact sndAsg SS S hc R' h
    | asgM i pe => exact sndAsgM SS hc R' h
    | asgT is pe => exact sndAsgT S hc R' h
    | seti i k pe => exact sndSeti S hc R' h
    | ifs c' a b =>
      refine gd_el hc fun q h1 hc => an3_el hc fun g1 h2 h3 => bd_el h fun x hx h => (dIf_ok h1).elim fun pos e1 => xs_el e1 (x_if (S.T m nm sc _ _ g1 A σ st _ _ R' hx) ?_)
      clear hx hc
      obtain ⟨b, s1⟩ := x
      cases b with
      | true => exact S.B m nm sc _ _ h2 A _ _ _ _ _ R' h
      | false => exact S.B m nm sc _ _ h3 A _ _ _ _ _ R' h
    | for1 tg it b =>
      exact gd_el hc fun q h1 hc => an5_el hc fun h0 g1 h3 h4 h5 => bd_el h fun x hx h => bd_el h fun src hs h => (dFor_ok h1).elim fun pos e1 => xs_el (e1.trans (congrArg (fun z => Stmt.For q.1 q.2.1 q.2.2.1 z pos) (isN_ok h0)))
        (x_for R' (tgChk_ok g1) (fun env x => fsi h3 env x) (S.E m nm sc _ _ h4 A σ st _ _ R' hx) hs h fun σ st fl σ' st' hb => S.B m nm sc _ _ h5 A _ _ _ _ _ R' hb)
    | whl c' b =>
      exact gd_el hc fun q h1 hc => an3_el hc fun h0 h2 h3 => (dWhile_ok h1).elim fun pos e1 => xs_el (e1.trans (congrArg (fun z => Stmt.While q.1 q.2.1 z pos) (isN_ok h0)))
        (have RR : ∀ k, k < n → Rm (3 * k) A := fun k hk => R'.le (Nat.mul_le_mul_left 3 (Nat.le_of_lt hk))
        x_while h (fun k hk σ st r st' ht => (SS k (Nat.le_of_lt hk)).T m nm sc _ _ h2 A σ st _ _ (RR k hk) ht) fun k hk σ st fl σ' st' hb => (SS k (Nat.le_of_lt hk)).B m nm sc _ _ h3 A _ _ _ _ _ (RR k hk) hb)
    | brk => exact (Option.isSome_iff_exists.mp hc).elim fun q h1 => (dBreak_ok h1).elim fun pos e1 => xs_el e1 (pr3_el (x := (Fl.brk, σ, st)) h x_break)
    | ret pe => exact gd_el hc fun q h1 hc => gd_el hc fun e h2 hc => mp3_el h fun x hx => (dRet_ok h1).elim fun pos e1 => xs_el (e1.trans (congrArg (fun z => Stmt.Return z pos) h2)) (x_return (S.E m nm sc _ _ hc A σ st _ _ R' hx))
    | ex pe => exact gd_el hc fun q h1 hc => an2_el hc fun h2 h3 => bd_el h fun x hx h => if_el h fun hn h => (dEx_ok h1).elim fun pos e1 => xs_el e1 (pr3_el (x := (Fl.next, σ, x.2)) h (x_expr (ed_el (isNo_ok hn) (S.E m nm sc _ _ h3 A σ st _ _ R' hx)) trivial fun env => nocomp_swap h2 _ _ _))
end
end Mine.Internal
end
section
open PySem PySem.W PySem.Calls PyProof.Rows PySem.Builtin
set_option Elab.async false
set_option linter.unusedVariables false
namespace Mine.Internal
theorem two_el {α β γ : Type} {p : D → Option α} {q : D → Option β} {f : α → β → Option γ} {x y : D} {d : γ} {P : Prop} (h : two p q f x y = some d) (k : ∀ a b, p x = some a → q y = some b → f a b = some d → P) : P := bd_el h fun a h1 h => bd_el h fun b h2 h => k a b h1 h2 h
theorem cM_el {e : Expr} {q} {X : Str} {l : List Expr} {P : Prop} (h : cM e = some q) (hX : q.2.1 = X) (hl : q.2.2 = l) (k : ∀ ap pos, e = .Call (.Attribute q.1 X ap) l [] pos → ap.endLine = pos.line → P) : P := by
  obtain ⟨ap, pos, e1, e2⟩ := cM_ok h
  rw [hX, hl] at e1
  exact k ap pos e1 e2
theorem cN_el {nm : Nm} {e : Expr} {q} {X : Str} {l : List Expr} {P : Prop} (h : cN nm e = some q) (hX : q.1 = X) (hl : q.2 = l) (k : ∀ p p', e = .Call (.Name X p) l [] p' → kdN nm X = some .globalImplicit → okName X = true → P) : P := by
  obtain ⟨p, p', e1, e2⟩ := cN_ok h
  rw [hX] at e1 e2
  rw [hl] at e1
  exact k p p' e1 (gi_ok e2).1 (gi_ok e2).2
theorem acc_at {st : Store} {i : Nat} {q} (h : getAcc st (.ref i) = some q) : st[i]? = some (.acc q.2) := by
  obtain ⟨e, h⟩ := getAcc_ok h
  rw [D.ref.inj e]; exact h
theorem ml_at {st : Store} {i : Nat} {q} (h : getMl st (.ref i) = some q) : st[i]? = some (.ml q.2) := by
  obtain ⟨e, h⟩ := getMl_ok h
  rw [D.ref.inj e]; exact h
theorem cst_is {e : Expr} {k : Const} (h : dCst e = some k) {k' : Const} (hk : k = k') : ∃ a b, e = .Constant k' a b := by
  rw [← hk]; exact dCst_ok h
theorem lit_str {k : Const} {x : Str} (h : litOk k (.str x) = true) : k = .str x := by
  have := litOk_ok h
  cases k <;> first | (cases this; done) | (cases this; rfl)
theorem no_init : (("_initial_size" : Str) == ("pop_from" : Str)) = false := by decide
section
variable {c : Cx} {F : Nat → Option PF} {g : Gn} {n : Nat} {m : Nat} {nm : Nm} {sc : Sc} {e : Expr} {A : Around} {σ : Vars} {st st' : Store} {d : D}

theorem lit_or {nm : Nm} {e : Expr} {x : D} (h : (match dCst e with
      | some k => litOk k x
      | none => gd (dNameP e) fun X => gi nm X.1 && gd (g.cst X.1) fun d' => sameD d' x) = true) : (∃ k, dCst e = some k ∧ litOk k x = true) ∨ (gd (dNameP e) fun X => gi nm X.1 && gd (g.cst X.1) fun d' => sameD d' x) = true := by
  revert h
  cases dCst e with
  | none => exact .inr
  | some k => exact fun h => .inl ⟨k, rfl, h⟩
theorem slc_is {e : Expr} {q : Expr × Expr} {r : Option Expr × Option Expr × Option Expr} (h1 : dSub e = some q) (h2 : dSlc q.2 = some r) (h3 : r.2.2.isNone = true) : ∃ p p', e = .Subscript q.1 (.Slice r.1 r.2.1 none p) p' := by
  obtain ⟨p, e1⟩ := dSub_ok h1
  obtain ⟨p', e2⟩ := dSlc_ok h2
  rw [e1, e2, Option.isNone_iff_eq_none.mp h3]; exact ⟨_, _, rfl⟩
theorem s_lit (T : TB c F g)  {x : D} (hc : chkE g (m + 1) nm sc e (.lit x) = true) (h : ev F (n + 1) σ st (.lit x) = some (d, st')) : EvE c A (kdN nm) sc e σ st d st' := by
  refine pr_el (x := (x, st)) h ?_
  rcases lit_or (g := g) (nm := nm) (e := e) (x := x) hc with ⟨k, h1, hc⟩ | hc
  · exact (dCst_ok h1).elim fun a e1 => e1.elim fun b e1 => ee_el e1 (e_lit (litOk_ok hc))
  · exact gd_el hc fun q h1 hc => an2_el hc fun h1' hc => gd_el hc fun d' h2 hc => (T.cst _ _ h2).elim fun v q => ee_el (dNameP_ok h1) (e_glob T.O (gi_ok h1').1 q.1 (gi_ok h1').2 (by rw [← sameD_ok hc]; exact fun P ρ => q.2 P ρ))
theorem s_var   {i : Nat} (hc : chkE g (m + 1) nm sc e (.var i) = true) (h : ev F (n + 1) σ st (.var i) = some (d, st')) : EvE c A (kdN nm) sc e σ st d st' :=
  gd_el hc fun q h1 hc => an2_el hc fun h2 h3 => mp_el h fun x hx => ee_el (dNameP_ok h1) (e_var h2 (of_decide_eq_true h3) hx)
theorem s_bin (S : Snd c F g n) (R' : Rm (3 * n) A) {op a b} (hc : chkE g (m + 1) nm sc e (.bin op a b) = true) (h : ev F (n + 1) σ st (.bin op a b) = some (d, st')) : EvE c A (kdN nm) sc e σ st d st' :=
  gd_el hc fun q h1 hc => an3_el hc fun h2 h3 h4 => bd_el h fun x hx h => bd_el h fun y hy h => mp_el h fun r hr => (bin_is h1 h2).elim fun p e1 => ee_el e1 (e_bin (S.E m nm sc _ _ h3 A σ st _ _ R' hx) (S.E m nm sc _ _ h4 A σ _ _ _ R' hy) hr)
theorem s_neg (S : Snd c F g n) (R' : Rm (3 * n) A) {a} (hc : chkE g (m + 1) nm sc e (.neg a) = true) (h : ev F (n + 1) σ st (.neg a) = some (d, st')) : EvE c A (kdN nm) sc e σ st d st' :=
  gd_el hc fun q h1 hc => an2_el hc fun h2 h3 => bd_el h fun x hx h => mp_el h fun i hi => (un_is h1 h2).elim fun p e1 => ee_el e1 (e_neg (ed_el (dI_ok hi) (S.E m nm sc _ _ h3 A σ st _ _ R' hx)))
theorem s_cmp2 (S : Snd c F g n) (R' : Rm (3 * n) A) {o₁ o₂ a b c'} (hc : chkE g (m + 1) nm sc e (.cmp2 o₁ o₂ a b c') = true) (h : ev F (n + 1) σ st (.cmp2 o₁ o₂ a b c') = some (d, st')) : EvE c A (kdN nm) sc e σ st d st' := by
  refine gd_el hc fun q h1 kc => gd_el kc fun o h2 kc => gd_el kc fun y h3 kc => an6_el kc fun h4 h4' h5 h6 h7 h8 => bd_el h fun x hx h => bd_el h fun y hy h => bd_el h fun r hr h => (cmp2_is h1 h2 h3 h4 h4').elim fun p e1 => ee_el e1 ?_
  have hX := S.E m nm sc _ _ h6 A σ st _ _ R' hx
  have hY := S.E m nm sc _ _ h7 A σ _ _ _ R' hy
  cases r with
  | true => exact bd_el h fun z hz h => mp_el h fun q hq => e_chain R' h5 hX hY hr ⟨S.E m nm sc _ _ h8 A σ _ _ _ R' hz, hq⟩
  | false => exact pr_el (x := (D.bool false, y.2)) h (e_chain (z := .none) R' h5 hX hY hr ⟨rfl, rfl⟩)
theorem s_cmp1 (S : Snd c F g n) (R' : Rm (3 * n) A) {op a b} (hc : chkE g (m + 1) nm sc e (.cmp1 op a b) = true) (h : ev F (n + 1) σ st (.cmp1 op a b) = some (d, st')) : EvE c A (kdN nm) sc e σ st d st' :=
  gd_el hc fun q h1 kc => gd_el kc fun o h2 kc => gd_el kc fun y h3 kc => an4_el kc fun h4 h5 h6 h7 => bd_el h fun x hx h => bd_el h fun y hy h => mp_el h fun r hr => (cmp1_is h1 h2 h3 h4).elim fun p e1 => ee_el e1 (e_cmp R' h5 (S.E m nm sc _ _ h6 A σ st _ _ R' hx) (S.E m nm sc _ _ h7 A σ _ _ _ R' hy) hr)
theorem s_ite (S : Snd c F g n) (R' : Rm (3 * n) A) {q a b} (hc : chkE g (m + 1) nm sc e (.ite q a b) = true) (h : ev F (n + 1) σ st (.ite q a b) = some (d, st')) : EvE c A (kdN nm) sc e σ st d st' := by
  refine gd_el hc fun q h1 hc => an3_el hc fun h2 h3 h4 => bd_el h fun x hx h => (dIte_ok h1).elim fun p e1 => ee_el e1 (e_ite (S.T m nm sc _ _ h2 A σ st _ _ R' hx) ?_)
  clear hx hc
  obtain ⟨b, s1⟩ := x
  cases b with
  | true => exact S.E m nm sc _ _ h3 A σ _ _ _ R' h
  | false => exact S.E m nm sc _ _ h4 A σ _ _ _ R' h
theorem s_idx (S : Snd c F g n) (R' : Rm (3 * n) A) {a i} (hc : chkE g (m + 1) nm sc e (.idx a i) = true) (h : ev F (n + 1) σ st (.idx a i) = some (d, st')) : EvE c A (kdN nm) sc e σ st d st' :=
  gd_el hc fun q h1 hc => an3_el hc fun h2 h3 h4 => bd_el h fun x hx h => bd_el h fun y hy h => mp_el h fun r hr => (dSub_ok h1).elim fun p e1 => ee_el e1 (e_idx h2 (S.E m nm sc _ _ h3 A σ st _ _ R' hx) (S.E m nm sc _ _ h4 A σ _ _ _ R' hy) hr)
theorem s_slc (S : Snd c F g n) (R' : Rm (3 * n) A) {a lo hi} (hc : chkE g (m + 1) nm sc e (.slc a lo hi) = true) (h : ev F (n + 1) σ st (.slc a lo hi) = some (d, st')) : EvE c A (kdN nm) sc e σ st d st' :=
  gd_el hc fun q h1 hc => gd_el hc fun r h2 hc => an4_el hc fun h3 h4 h5 h6 => bd_el h fun x hx h => bd_el h fun y hy h => bd_el h fun z hz h => mp_el h fun w hw => (slc_is h1 h2 h3).elim fun p e1 => e1.elim fun p' e1 => ee_el e1 (e_slc (S.E m nm sc _ _ h4 A σ st _ _ R' hx) (S.O m nm sc _ _ h5 A σ _ _ _ R' hy) (S.O m nm sc _ _ h6 A σ _ _ _ R' hz) hw)
theorem s_tup (S : Snd c F g n) (R' : Rm (3 * n) A) {l} (hc : chkE g (m + 1) nm sc e (.tup l) = true) (h : ev F (n + 1) σ st (.tup l) = some (d, st')) : EvE c A (kdN nm) sc e σ st d st' :=
  gd_el hc fun q h1 hc => an2_el hc fun h2 h3 => mp_el h fun x hx => (dTup_ok h1).elim fun k e1 => e1.elim fun p e1 => (S.L m nm sc _ _ h3 A σ st _ _ R' hx).elim fun q1 q2 => ee_el e1 (e_tup q1 (of_decide_eq_true h2) q2)
theorem s_lst (S : Snd c F g n) (R' : Rm (3 * n) A) {l} (hc : chkE g (m + 1) nm sc e (.lst l) = true) (h : ev F (n + 1) σ st (.lst l) = some (d, st')) : EvE c A (kdN nm) sc e σ st d st' :=
  gd_el hc fun q h1 hc => an2_el hc fun h2 h3 => mp_el h fun x hx => (dLst_ok h1).elim fun p e1 => (S.L m nm sc _ _ h3 A σ st _ _ R' hx).elim fun q1 q2 => ee_el e1 (e_lst q1 (of_decide_eq_true h2) q2)
theorem s_comp (S : Snd c F g n) (R' : Rm (3 * n) A) {ep ix it cc} (hc : chkE g (m + 1) nm sc e (.comp ep ix it cc) = true) (h : ev F (n + 1) σ st (.comp ep ix it cc) = some (d, st')) : EvE c A (kdN nm) sc e σ st d st' :=
  sndComp S hc R' h fun tg q out y s1 src testF eltF er ed q1 q2 q3 q4 q6 q7 q8 => ee_el (cL_ok er) (ed_el ed.symm (new_comp R' q1 q2 q3 q4 (Nat.le_refl _) q6 q7 q8).val)
theorem s_fn (T : TB c F g) (S : Snd c F g n) (R' : Rm (3 * n) A) {f l} (hc : chkE g (m + 1) nm sc e (.fn f l) = true) (h : ev F (n + 1) σ st (.fn f l) = some (d, st')) : EvE c A (kdN nm) sc e σ st d st' :=
  gd_el hc fun q h1 hc => an3_el hc fun h2 h3 h4 => bd_el h fun x hx h => mp_el h fun r hr => cN_el h1 (eq_of_beq h2) rfl fun p p' e1 g1 g2 => ee_el e1 (e_fn T.O R' g1 (T.fnv _) g2 h3 (S.L m nm sc _ _ h4 A σ st _ _ R' hx).1 hr)
theorem s_me (S : Snd c F g n) (R' : Rm (3 * n) A) {k o l} (hc : chkE g (m + 1) nm sc e (.me k o l) = true) (h : ev F (n + 1) σ st (.me k o l) = some (d, st')) : EvE c A (kdN nm) sc e σ st d st' :=
  gd_el hc fun q h1 hc => an6_el hc fun h2 h3 h4 h5 h6 h7 => bd_el h fun x hx h => bd_el h fun y hy h => mp_el h fun r hr => cM_el h1 rfl rfl fun ap pos e1 e2 => ee_el e1 (e_me (eq_of_beq h2) h3 h4 (of_decide_eq_true h5) e2 (S.E m nm sc _ _ h6 A σ st _ _ R' hx) (S.L m nm sc _ _ h7 A σ _ _ _ R' hy).1 hr)
theorem s_sub (T : TB c F g) (S : Snd c F g n) (R' : Rm (3 * n) A) {k a b} (hc : chkE g (m + 1) nm sc e (.sub k a b) = true) (h : ev F (n + 1) σ st (.sub k a b) = some (d, st')) : EvE c A (kdN nm) sc e σ st d st' :=
  gd_el hc fun q h1 hc => gd_el hc fun X hX hc => gd_el hc fun y hy hc => an7_el hc fun h2 h3 h4 h5 h6 h7 h8 => bd_el h fun x hx h => bd_el h fun z hz h => mp_el h fun r hr => two_el hr fun t u k1 k2 hr =>
  (T.pat _ _ (eq_of_beq h4)).elim fun pa w => cM_el h1 (eq_of_beq h2) (un2_ok hy) fun ap pos e1 e2 => ee_el (e1.trans (congrArg (fun z => Expr.Call (.Attribute z "sub" ap) [y.1, y.2] [] pos) (dNameP_ok hX)))
    (e_sub T.O (gi_ok h3).1 w.1 (gi_ok h3).2 h5 h6 e2 w.2 (ed_el (dS_ok k1) (S.E m nm sc _ _ h7 A σ st _ _ R' hx)) (ed_el (dS_ok k2) (S.E m nm sc _ _ h8 A σ _ _ _ R' hz)) hr)
theorem s_call (T : TB c F g) (S : Snd c F g n) (R' : Rm (3 * n) A) {f l} (hc : chkE g (m + 1) nm sc e (.call f l) = true) (h : ev F (n + 1) σ st (.call f l) = some (d, st')) : EvE c A (kdN nm) sc e σ st d st' :=
  gd_el hc fun q h1 hc => an3_el hc fun h2 h3 h4 => bd_el h fun x hx h => cN_el h1 rfl rfl fun p p' e1 g1 g2 => (T.fn _ _ (eq_of_beq h2)).elim fun a w => ee_el e1 (e_call T.O g1 w.1 w.2.1 g2 h3 (S.L m nm sc _ _ h4 A σ st _ _ R' hx).1 (S.C _ a w.2.2 A _ _ _ _ R' h))
theorem s_acc0 (T : TB c F g) (R : Rm (3 * (n + 1)) A) (hc : chkE g (m + 1) nm sc e .acc0 = true) (h : ev F (n + 1) σ st .acc0 = some (d, st')) : EvE c A (kdN nm) sc e σ st d st' :=
  gd_el hc fun q h1 hc => an2_el hc fun h2 h3 => cN_el h1 (eq_of_beq h2) (isN_ok h3) fun p p' e1 g1 g2 => T.init.elim fun fI hI => ee_el e1 (pr_el (x := (D.ref st.length, st ++ [MO.acc []])) h (e_acc0 (n := 3 * n + 1) T.O (R.le (Nat.le_refl _)) hI g1 T.cls g2))
theorem s_meth (T : TB c F g) (S : Snd c F g n) (R' : Rm (3 * n) A) {f o l} (hc : chkE g (m + 1) nm sc e (.meth f o l) = true) (h : ev F (n + 1) σ st (.meth f o l) = some (d, st')) : EvE c A (kdN nm) sc e σ st d st' :=
  gd_el hc fun q h1 hc => an7_el hc fun h2 h3 h4 h5 h6 h7 h8 => bd_el h fun x hx h => bd_el h fun r hr h => bd_el h fun y hy h => cM_el h1 rfl rfl fun ap pos e1 e2 => (T.meth _ _ (eq_of_beq h2)).elim fun a w =>
    ee_el e1 (e_meth T.O T.kls w.1 w.2.1 w.2.2.1 (ble_no h3) h4 h5 (of_decide_eq_true h6) e2 (ed_el (getAcc_ok hr).1 (S.E m nm sc _ _ h7 A σ st _ _ R' hx)) (getAcc_ok hr).2 (S.L m nm sc _ _ h8 A σ _ _ _ R' hy).1 (S.C _ a w.2.2.2 A _ _ _ _ R' h))
theorem s_append (T : TB c F g) (S : Snd c F g n) (R' : Rm (3 * n) A) {o a} (hc : chkE g (m + 1) nm sc e (.accAppend o a) = true) (h : ev F (n + 1) σ st (.accAppend o a) = some (d, st')) : EvE c A (kdN nm) sc e σ st d st' :=
  gd_el hc fun q h1 hc => gd_el hc fun y hy hc => an5_el hc fun h2 h3 h4 h5 h6 => bd_el h fun x hx h => bd_el h fun r hr h => bd_el h fun z hz h => bd_el h fun u hu h => if_el h fun hlen h => cM_el h1 (eq_of_beq h2) (un1_ok hy) fun ap pos e1 e2 =>
    ee_el e1 (pr_el (x := (D.none, z.2.set r.1 (.acc (u.2 ++ [z.1])))) h (e_append T.O T.kls T.app h3 h4 e2 (ed_el (getAcc_ok hr).1 (S.E m nm sc _ _ h5 A σ st _ _ R' hx)) (S.E m nm sc _ _ h6 A σ _ _ _ R' hz) ⟨r.2, (getAcc_ok hr).2⟩ (acc_at hu) hlen))
theorem s_mlAppend (S : Snd c F g n) (R' : Rm (3 * n) A) {o a} (hc : chkE g (m + 1) nm sc e (.mlAppend o a) = true) (h : ev F (n + 1) σ st (.mlAppend o a) = some (d, st')) : EvE c A (kdN nm) sc e σ st d st' :=
  gd_el hc fun q h1 hc => gd_el hc fun y hy hc => an5_el hc fun h2 h3 h4 h5 h6 => bd_el h fun x hx h => bd_el h fun r hr h => bd_el h fun z hz h => bd_el h fun u hu h => if_el h fun hlen h => cM_el h1 (eq_of_beq h2) (un1_ok hy) fun ap pos e1 e2 =>
    ee_el e1 (pr_el (x := (D.none, z.2.set r.1 (.ml (u.2 ++ [z.1])))) h (e_mlAppend h3 h4 e2 (ed_el (getMl_ok hr).1 (S.E m nm sc _ _ h5 A σ st _ _ R' hx)) (S.E m nm sc _ _ h6 A σ _ _ _ R' hz) ⟨r.2, (getMl_ok hr).2⟩ (ml_at hu) hlen))
theorem s_pop (T : TB c F g) (S : Snd c F g n) (R : Rm (3 * (n + 1)) A) {o} (hc : chkE g (m + 1) nm sc e (.accPop o) = true) (h : ev F (n + 1) σ st (.accPop o) = some (d, st')) : EvE c A (kdN nm) sc e σ st d st' := by
  refine gd_el hc fun q h1 hc => an5_el hc fun h2 h3 h4 h5 h6 => bd_el h fun x hx h => bd_el h fun r hr h => if_el h fun hlen h => cM_el h1 ((eq_of_beq h2).trans T.popN) (isN_ok h5) fun ap pos e1 e2 => T.pop.elim fun fN P => P.elim fun fO P =>
    ee_el e1 (e_meth (l := []) T.O T.kls P.1.find P.1.typ P.2 (by rw [← T.popN, ← eq_of_beq h2]; exact ble_no h3) h4 rfl (Nat.zero_lt_succ _) e2 (ed_el (getAcc_ok hr).1 (S.E m nm sc _ _ h6 A σ st _ _ R.dn hx)) (getAcc_ok hr).2 l_nil (pop_E (n := 3 * n + 1) T.O (R.le (Nat.le_refl _)) P.1 (getAcc_ok hr).2 hlen ?_))
  clear hc h1 h2 h3 h4 h5 h6 hx hr e1 e2
  revert h
  cases r.2.getLast? with
  | none => exact fun h => pr_el (x := (D.tup [.str ⟨#[]⟩, .str ⟨#[]⟩], x.2)) (P := fun d st' => d = _ ∧ st' = x.2) h ⟨rfl, rfl⟩
  | some e => exact fun h => pr_el (x := (e, x.2.set r.1 (.acc r.2.dropLast))) (P := fun d st' => d = e ∧ st' = x.2.set r.1 (.acc r.2.dropLast)) h ⟨rfl, rfl⟩
theorem s_len (T : TB c F g) (S : Snd c F g n) (R : Rm (3 * (n + 1)) A) {o} (hc : chkE g (m + 1) nm sc e (.accLen o) = true) (h : ev F (n + 1) σ st (.accLen o) = some (d, st')) : EvE c A (kdN nm) sc e σ st d st' :=
  gd_el hc fun q h1 hc => an5_el hc fun h2 h3 h4 h5 h6 => bd_el h fun x hx h => bd_el h fun r hr h => if_el h fun hlen h => cM_el h1 ((eq_of_beq h2).trans T.cntN) (isN_ok h5) fun ap pos e1 e2 => T.cnt.elim fun fN P =>
    ee_el e1 (pr_el (x := (D.int r.2.length, x.2)) h (e_meth (l := []) T.O T.kls P.1.find P.1.typ P.2 (by rw [← T.cntN, ← eq_of_beq h2]; exact ble_no h3) h4 rfl (Nat.zero_lt_succ _) e2 (ed_el (getAcc_ok hr).1 (S.E m nm sc _ _ h6 A σ st _ _ R.dn hx)) (getAcc_ok hr).2 l_nil (count_E (n := 3 * n + 1) T.O (R.le (Nat.le_succ _)) P.1 (getAcc_ok hr).2)))
theorem pb_str (T : TB c F g) (S : Snd c F g n) (R : Rm (3 * (n + 1)) A) {o} (hc : chkP g (m + 1) nm sc e (.accStr o) = true) (h : ev F (n + 1) σ st (.accStr o) = some (d, st')) : EvP c A (kdN nm) sc e σ st d st' :=
  gd_el hc fun q h1 hc => gd_el hc fun y hy hc => an3_el hc fun h2 h3 h4 => bd_el h fun x hx h => bd_el h fun r hr h => if_el h fun ht h => mp_el h fun t hs => cN_el h1 (eq_of_beq h2) (un1_ok hy) fun p p' e1 g1 _ => T.str.elim fun fS I =>
    ep_el e1 (p_accStr (n := 3 * n) T.O (R.le (Nat.le_succ _)) I g1 (T.fnv .strI) h3 (S.E m nm sc _ _ h4 A σ st _ _ R.dn hx) hr ht hs)
theorem opt_arg (SS : ∀ k, k ≤ n → Snd c F g k) (R : Rm (3 * n) A) {xs : List Expr} {i : Option PE} {y : Option D} (hc : (match i with | none => isN xs | some i => gd (un1 xs) fun y => nsl y && chkE g m nm sc y i) = true) (hy : evO F n σ st i = some (y, st')) : EvL c A (kdN nm) sc xs σ st (optL y) st' ∧ xs.all nsl = true ∧ xs.length < 30 := by
  cases n with
  | zero => exact bad hy
  | succ n =>
    cases i with
    | none => rw [isN_ok hc]; exact pr_el (x := (none, st)) (P := fun y st' => EvL c A (kdN nm) sc [] σ st (optL y) st' ∧ true = true ∧ 0 < 30) hy ⟨l_nil, rfl, Nat.zero_lt_succ _⟩
    | some i =>
      refine gd_el hc fun z hz hc => an2_el hc fun h1 h2 => ?_
      rw [un1_ok hz]
      exact mp_el (P := fun y st' => EvL c A (kdN nm) sc [z] σ st (optL y) st' ∧ [z].all nsl = true ∧ 1 < 30) hy fun w hw => ⟨l_cons h1 ((SS n (Nat.le_succ n)).E m nm sc _ _ h2 A σ _ _ _ R.dn hw) l_nil, List.all_eq_true.mpr fun u hu => by rw [List.mem_singleton.mp hu]; exact h1, Nat.le_add_left 2 28⟩
theorem s_popFrom (T : TB c F g) (SS : ∀ k, k ≤ n → Snd c F g k) (R : Rm (3 * (n + 1)) A) {o i} (hc : chkE g (m + 1) nm sc e (.popFrom o i) = true) (h : ev F (n + 1) σ st (.popFrom o i) = some (d, st')) : EvE c A (kdN nm) sc e σ st d st' :=
  gd_el hc fun q h1 hc => an4_el hc fun h2 h3 h4 h5 => bd_el h fun x hx h => bd_el h fun r hr h => bd_el h fun y hy h => bd_el h fun u hu h => if_el h fun hlen h => mp_el h fun k hk => cM_el h1 (eq_of_beq h2) rfl fun ap pos e1 e2 => T.popF.elim fun fP P => P.elim fun v0 P =>
    (opt_arg SS R.dn h5 hy).elim fun f1 f2 => ee_el e1 (e_meth T.O T.kls P.1.find P.1.typ P.2 no_init h3 f2.1 f2.2 e2 (ed_el (getAcc_ok hr).1 ((SS n (Nat.le_refl n)).E m nm sc _ _ h4 A σ st _ _ R.dn hx)) (getAcc_ok hr).2 f1 (popFrom_E (n := 3 * n + 1) T.O (R.le (Nat.le_succ _)) P.1 (acc_at hu) hlen hk))
theorem s_repl (S : Snd c F g n) (R' : Rm (3 * n) A) {o a b} (hc : chkE g (m + 1) nm sc e (.repl o a b) = true) (h : ev F (n + 1) σ st (.repl o a b) = some (d, st')) : EvE c A (kdN nm) sc e σ st d st' :=
  gd_el hc fun q h1 hc => gd_el hc fun y hy hc => an5_el hc fun h2 h3 h4 h5 h6 => gd_el h4 fun k1 e1 h4 => gd_el h5 fun k2 e2 h5 => bd_el h fun x hx h => mp_el h fun r hr => (cst_is e1 (lit_str h4)).elim fun p1 e1 => e1.elim fun p2 e1 => (cst_is e2 (lit_str h5)).elim fun p3 e2 => e2.elim fun p4 e2 =>
    cM_el h1 (eq_of_beq h2) ((un2_ok hy).trans (by rw [e1, e2])) fun ap pos e3 e4 => ee_el e3 (e_repl h3 e4 (S.P m nm sc _ _ h6 A σ st _ _ R' hx) hr)
theorem s_lindex (S : Snd c F g n) (R' : Rm (3 * n) A) {o a} (hc : chkE g (m + 1) nm sc e (.lindex o a) = true) (h : ev F (n + 1) σ st (.lindex o a) = some (d, st')) : EvE c A (kdN nm) sc e σ st d st' :=
  gd_el hc fun q h1 hc => gd_el hc fun y hy hc => an5_el hc fun h2 h3 h4 h5 h6 => bd_el h fun x hx h => bd_el h fun z hz h => mp_el h fun r hr => cM_el h1 (eq_of_beq h2) (un1_ok hy) fun ap pos e1 e2 =>
    ee_el e1 (e_lindex h3 h4 e2 (S.E m nm sc _ _ h5 A σ st _ _ R' hx) (S.E m nm sc _ _ h6 A σ _ _ _ R' hz) hr)
theorem args_p (SS : ∀ k, k ≤ n → Snd c F g k) (R : Rm (3 * n) A) {xs : List Expr} {l : List PE} {ds : List D} (hc : (match l with | [] => false | p :: ps => (match xs with | [] => false | y :: ys => chkP g m nm sc y p && chkL g m nm sc ys ps)) = true) (hn : xs.all nsl = true) (hy : evs F n σ st l = some (ds, st')) : EvLP c A (kdN nm) sc xs σ st ds st' := by
  cases n with
  | zero => exact bad hy
  | succ n =>
    cases l with
    | nil => exact Bool.noConfusion hc
    | cons p ps =>
      cases xs with
      | nil => exact Bool.noConfusion hc
      | cons y ys => exact an2_el hc fun h1 h2 => bd_el hy fun z hz h => mp_el h fun w hw => lp_cons (an2 hn).1 ((SS n (Nat.le_succ n)).P m nm sc _ _ h1 A σ _ _ _ R.dn hz) ((SS n (Nat.le_succ n)).L m nm sc _ _ h2 A σ _ _ _ R.dn hw).1
theorem opt_p (SS : ∀ k, k ≤ n → Snd c F g k) (R : Rm (3 * n) A) {e : Option Expr} {i : Option PE} {y : Option D} (hc : (match i with | none => false | some h => gd e fun t => chkP g m nm sc t h) = true) (hy : evO F n σ st i = some (y, st')) : EvOP c A (kdN nm) sc e σ st y st' := by
  cases n with
  | zero => exact bad hy
  | succ n =>
    cases i with
    | none => exact Bool.noConfusion hc
    | some i => exact gd_el hc fun t ht hc => mp_el hy fun w hw => by rw [show e = some t from ht]; exact op_some ((SS n (Nat.le_succ n)).P m nm sc _ _ hc A σ _ _ _ R.dn hw)
theorem sndP (T : TB c F g) (SS : ∀ k, k ≤ n → Snd c F g k) (m nm sc e p) (hc : chkP g m nm sc e p = true) (A σ st d st') (R : Rm (3 * (n + 1)) A) (h : ev F (n + 1) σ st p = some (d, st')) : EvP c A (kdN nm) sc e σ st d st' := by
  have S := SS n (Nat.le_refl n)
  have R' := R.dn
  cases m with
  | zero => exact Bool.noConfusion hc
  | succ m =>
    cases p with
    | lit x =>
      cases x with
      | str x => exact gd_el hc fun k h1 hc => (cst_is h1 (lit_str hc)).elim fun a e1 => e1.elim fun b e1 => ep_el e1 (pr_el (x := (D.str x, st)) h (p_lit rfl))
      | _ => exact Bool.noConfusion hc
    | idx a i =>
      exact gd_el hc fun q h1 hc => an3_el hc fun h2 h3 h4 => bd_el h fun x hx h => bd_el h fun y hy h => mp_el h fun r hr => (dSub_ok h1).elim fun p e1 => ep_el e1 (p_idx h2 (S.P m nm sc _ _ h3 A σ st _ _ R' hx) (S.E m nm sc _ _ h4 A σ _ _ _ R' hy) hr)
    | me k o l =>
      exact gd_el hc fun q h1 hc => an6_el hc fun h2 h3 h4 h5 h6 h7 => bd_el h fun x hx h => bd_el h fun y hy h => mp_el h fun r hr => cM_el h1 rfl rfl fun ap pos e1 e2 => ep_el e1 (p_me (eq_of_beq h2) h3 h4 (of_decide_eq_true h5) e2 (S.E m nm sc _ _ h6 A σ st _ _ R' hx) (args_p SS R' h7 h4 hy) hr)
    | slc a lo hi =>
      exact gd_el hc fun q h1 hc => gd_el hc fun r h2 hc => an4_el hc fun h3 h4 h5 h6 => bd_el h fun x hx h => bd_el h fun y hy h => bd_el h fun z hz h => mp_el h fun w hw => (slc_is h1 h2 h3).elim fun p e1 => e1.elim fun p' e1 => ep_el e1 (p_slc (S.E m nm sc _ _ h4 A σ st _ _ R' hx) (S.O m nm sc _ _ h5 A σ _ _ _ R' hy) (opt_p SS R' h6 hz) hw)
    | accStr o => exact pb_str T S R hc h
    | _ => exact Bool.noConfusion hc
theorem sndE (T : TB c F g) (SS : ∀ k, k ≤ n → Snd c F g k) (m nm sc e p) (hc : chkE g m nm sc e p = true) (A σ st d st') (R : Rm (3 * (n + 1)) A) (h : ev F (n + 1) σ st p = some (d, st')) : EvE c A (kdN nm) sc e σ st d st' := by
  have S := SS n (Nat.le_refl n)
  cases m with
  | zero => exact Bool.noConfusion hc
  | succ m =>
    cases p with
    | accStr o => exact (pb_str T S R hc h).val
    | popFrom o i => exact s_popFrom T SS R hc h
    | mlAppend o a => exact s_mlAppend S R.dn hc h
    | repl o a b => exact s_repl S R.dn hc h
    | lindex o a => exact s_lindex S R.dn hc h
    | lit d => exact s_lit T hc h
    | var i => exact s_var hc h
    | bin op a b => exact s_bin S R.dn hc h
    | neg a => exact s_neg S R.dn hc h
    | cmp1 op a b => exact s_cmp1 S R.dn hc h
    | ite c' a b => exact s_ite S R.dn hc h
    | idx a i => exact s_idx S R.dn hc h
    | slc a lo hi => exact s_slc S R.dn hc h
    | tup l => exact s_tup S R.dn hc h
    | lst l => exact s_lst S R.dn hc h
    | comp ep ix it cc => exact s_comp S R.dn hc h
    | fn f l => exact s_fn T S R.dn hc h
    | me k o l => exact s_me S R.dn hc h
    | sub k a b => exact s_sub T S R.dn hc h
    | call f l => exact s_call T S R.dn hc h
    | acc0 => exact s_acc0 T R hc h
    | meth f o l => exact s_meth T S R.dn hc h
    | accAppend o a => exact s_append T S R.dn hc h
    | accPop o => exact s_pop T S R hc h
    | accLen o => exact s_len T S R hc h
    | cmp2 _ _ _ _ _ => exact s_cmp2 S R.dn hc h
    | band _ => exact bad h
    | bor _ => exact bad h
    | bnot _ => exact bad h

theorem sound (T : TB c F g) (n : Nat) : Snd c F g n := by
  have : ∀ n k, k ≤ n → Snd c F g k := by
    intro n
    induction n with
    | zero => intro k hk; rw [Nat.le_zero.mp hk]; exact snd0
    | succ n ih =>
      intro k hk
      by_cases h : k ≤ n
      · exact ih k h
      · obtain rfl : k = n + 1 := by lia
        have S := ih n (Nat.le_refl n)
        exact ⟨sndE T ih, sndP T ih, fun m nm sc e p hc A σ st d st' R => sndO S m nm sc e p hc A σ st d st' R.dn, fun m nm sc e p hc A σ st d st' R => sndL S m nm sc e p hc A σ st d st' R.dn, fun m nm sc e p hc A σ st d st' R => sndT S m nm sc e p hc A σ st d st' R.dn,
          fun m nm sc e p hc A σ st d st' R => sndAnd S m nm sc e p hc A σ st d st' R.dn, fun m nm sc e p hc A σ st d st' R => sndOr S m nm sc e p hc A σ st d st' R.dn, sndC T S, fun m nm sc e p hc A σ st fl σ' st' R => sndX ih m nm sc e p hc A σ st fl σ' st' R.dn, fun m nm sc e p hc A σ st fl σ' st' R => sndB S m nm sc e p hc A σ st fl σ' st' R.dn⟩
  exact this n n (Nat.le_refl n)
end
end Mine.Internal
end
section
open PySem PySem.W PySem.Calls PyProof.Rows
set_option Elab.async false
set_option maxRecDepth 100000
namespace Mine.Internal
noncomputable def tD (i : Nat) : Stmt := PySem.Challenge.pw_sn0007_02.main.body.getD i (.Pass default)
noncomputable def mD (i : Nat) : Stmt := match tD 4 with | .ClassDef _ _ _ b _ _ _ _ _ _ _ => b.getD i (.Pass default) | _ => .Pass default
noncomputable def de (P : Params) (x : Str) (t : Tok) (v : Value) : DictEntry := { hash := PyData.keyHash P x, key := .str x t, val := v }
noncomputable def coO (x q : Str) (t : Tok) (line argc : Int) (a b : Addr) (l m n : Value) (k : Int) (u : Tok) : Obj :=
  { cls := .type "code", data := .fields #[.str x t, .str q (t + 1), .str "/claim/cut.py" (t + 2), .int line 0, .int argc 0, .int 0 0, .int 0 0, .int 3 0, .ref a, .bool true, .int 276 0, .ref b, .none, l, m, n, .int k 0, .int line 0, .str "/claim/cut.py" u] }
noncomputable def fnO (s : Stmt) (q : Str) (cl : List (Str × Addr)) (d : Value) (m : Str) (mt : Tok) (co : Addr) (ct : Value) : Obj :=
  match s with
  | .FunctionDef n a b _ _ _ sc _ _ _ => { cls := .type "function", data := .func { name := n, qualname := q, params := a, body := .stmts b, scope := sc, globals := 3, closure := cl, defaults := d, kwdefaults := .none, pyModule := .str m mt, code := .ref co, closureTuple := ct } }
  | _ => default
noncomputable def KK (P : Params) : Frag := [
  (2, { cls := .none, data := .dict #[de P "\x69mport.loaded._sre" 183 (.bool true), de P "class._frozen_importlib.BuiltinImporter" 185 (.ref 14), de P "watched.\x69mport" 206 (.ref 18), de P "class._frozen_importlib.ModuleSpec" 216 (.ref 22), de P "sys.modules.booked-epoch" 245 (.int 3 0), de P "\x69mport.later-laid._sre" 270 (.bool true), de P "watched.library" 272 (.ref 27), de P "watched.library-objects" 0 (.str "\x0c" 0), de P "watched.library-deep._sre" 273 (.str "\x04\x00\x00\x0b\x04\x00\x00\x0b\x04\x00\x00\x03\x04\x00\x00\x0b\x08\x04dict\x02" 0)] 9 }),
  (3, { cls := .type "dict", data := .dict #[de P "__name__" 165 (.str "law_sn0007_02" 478), de P "__doc__" 166 .none, de P "__package__" 167 .none, de P "__loader__" 168 (.builtin "__main__.__loader__#opaque"), de P "__spec__" 169 .none, de P "__annotations__" 170 (.ref 6), de P "__builtins__" 171 (.ref 4), de P "__file__" 173 (.str "/claim/cut.py" 172), de P "__cached__" 174 .none, de P "_sre" 275 (.ref 12), de P "_wall" 288 (.ref 38), de P "EMPTYSTRING" 292 (.str "" 291), de P "_Accumulator" 388 (.ref 118), de P "rgb_to_hsv" 408 (.ref 129), de P "_twin_re_1" 426 (.ref 134), de P "_twin_re_2" 468 (.ref 139), de P "CRLF" 470 (.str "\x0d\n" 469), de P "quotedata" 477 (.ref 146), de P "_law_arrows" 485 (.ref 151), de P "_law_leads" 491 (.ref 156), de P "_law_sixth" 501 (.ref 163), de P "_law_at_once" 507 (.ref 168), de P "_law_sent" 513 (.ref 173), de P "_law_walks" 519 (.ref 178), de P "law" 525 (.ref 183)] 25 }),
  (42, { cls := .type "cell", data := .cell (some (.ref 118)) }),
  (47, { cls := .type "tuple", data := .seq #[.int 0 305] }),
  (54, coO "__init__" "_Accumulator.__init__" 306 9 2 49 50 (.ref 51) (.ref 52) (.ref 53) 312 313),
  (55, fnO (mD 0) "_Accumulator.__init__" [("__class__", 42)] (.ref 47) "cpy313.email.header" 289 54 (.ref 48)),
  (61, coO "push" "_Accumulator.push" 315 13 3 56 57 (.ref 58) (.ref 59) (.ref 60) 321 322),
  (62, fnO (mD 1) "_Accumulator.push" [] .none "cpy313.email.header" 289 61 .none),
  (63, { cls := .type "tuple", data := .seq #[.int 0 324] }),
  (69, coO "pop_from" "_Accumulator.pop_from" 325 16 2 64 65 (.ref 66) (.ref 67) (.ref 68) 331 332),
  (70, fnO (mD 2) "_Accumulator.pop_from" [] (.ref 63) "cpy313.email.header" 289 69 .none),
  (77, coO "pop" "_Accumulator.pop" 334 21 1 72 73 (.ref 74) (.ref 75) (.ref 76) 339 340),
  (78, fnO (mD 3) "_Accumulator.pop" [("__class__", 42)] .none "cpy313.email.header" 289 77 (.ref 71)),
  (91, coO "__str__" "_Accumulator.__str__" 349 29 1 86 87 (.ref 88) (.ref 89) (.ref 90) 353 354),
  (92, fnO (mD 5) "_Accumulator.__str__" [] .none "cpy313.email.header" 289 91 .none),
  (114, coO "part_count" "_Accumulator.part_count" 371 38 1 109 110 (.ref 111) (.ref 112) (.ref 113) 376 377),
  (115, fnO (mD 8) "_Accumulator.part_count" [("__class__", 42)] .none "cpy313.email.header" 289 114 (.ref 108)),
  (117, { cls := .type "dict", data := .dict #[de P "__module__" 300 (.str "cpy313.email.header" 289), de P "__firstlineno__" 304 (.int 7 303), de P "__init__" 314 (.ref 55), de P "push" 323 (.ref 62), de P "pop_from" 333 (.ref 70), de P "pop" 341 (.ref 78), de P "__len__" 348 (.ref 85), de P "__str__" 355 (.ref 92), de P "reset" 363 (.ref 100), de P "is_onlyws" 370 (.ref 107), de P "part_count" 378 (.ref 115), de P "__static_attributes__" 380 (.ref 116), de P "__dict__" 383 (.ref 119), de P "__weakref__" 385 (.ref 120), de P "__doc__" 386 .none] 5 }),
  (118, { cls := .type "type", data := .cls { name := "_Accumulator", bases := [.type "list"], mro := [.ref 118, .type "list", .type "object"], ns := 117, qualname := "_Accumulator" }, slots := #[some (.ref 39), none, some (.str "_Accumulator" 293), some (.str "_Accumulator" 301), some (.builtin "list.__new__"), some (.bool true)] }),
  (128, coO "rgb_to_hsv" "rgb_to_hsv" 391 41 3 123 124 (.ref 125) (.ref 126) (.ref 127) 406 407),
  (129, fnO (tD 6) "rgb_to_hsv" [] .none "cpy313.colorsys" 389 128 .none),
  (133, { cls := .type "tuple", data := .seq #[.int 14 0, .int 4 0, .int 0 0, .int 1 0, .int 1 0, .int 6 0, .int 1 0, .int 16 0, .int 46 0, .int 1 0] }),
  (134, { cls := .type "re.Pattern", data := .fields #[.str "(?m)^\\." 412, .int 40 425, .int 0 0, .none, .none, .ref 133, .int 0 0] }),
  (138, { cls := .type "tuple", data := .seq #[.int 14 0, .int 9 0, .int 4 0, .int 1 0, .int 2 0, .int 16 0, .int 10 0, .int 16 0, .int 13 0, .int 0 0, .int 7 0, .int 7 0, .int 16 0, .int 13 0, .int 16 0, .int 10 0, .int 15 0, .int 18 0, .int 5 0, .int 16 0, .int 10 0, .int 15 0, .int 13 0, .int 11 0, .int 16 0, .int 13 0, .int 5 0, .int 5 0, .int 0 0, .int 16 0, .int 10 0, .int 1 0, .int 15 0, .int 2 0, .int 0 0, .int 1 0] }),
  (139, { cls := .type "re.Pattern", data := .fields #[.str "(?:\\r\\n|\\n|\\r(?!\\n))" 428, .int 32 467, .int 0 0, .none, .none, .ref 138, .int 0 0] }),
  (145, coO "quotedata" "quotedata" 471 64 1 140 141 (.ref 142) (.ref 143) (.ref 144) 475 476),
  (146, fnO (tD 11) "quotedata" [] .none "cpy313.smtplib" 409 145 .none),
  (150, coO "_law_arrows" "_law_arrows" 480 67 1 147 148 .none .none (.ref 149) 483 484),
  (151, fnO (tD 13) "_law_arrows" [] .none "law_sn0007_02" 478 150 .none),
  (155, coO "_law_leads" "_law_leads" 486 75 1 152 153 .none .none (.ref 154) 489 490),
  (156, fnO (tD 14) "_law_leads" [] .none "law_sn0007_02" 478 155 .none),
  (162, coO "_law_sixth" "_law_sixth" 492 90 3 157 158 (.ref 159) (.ref 160) (.ref 161) 499 500),
  (163, fnO (tD 15) "_law_sixth" [] .none "law_sn0007_02" 478 162 .none),
  (167, coO "_law_at_once" "_law_at_once" 502 94 1 164 165 .none .none (.ref 166) 505 506),
  (168, fnO (tD 16) "_law_at_once" [] .none "law_sn0007_02" 478 167 .none),
  (172, coO "_law_sent" "_law_sent" 508 114 3 169 170 .none .none (.ref 171) 511 512),
  (173, fnO (tD 17) "_law_sent" [] .none "law_sn0007_02" 478 172 .none),
  (177, coO "_law_walks" "_law_walks" 514 120 2 174 175 .none .none (.ref 176) 517 518),
  (178, fnO (tD 18) "_law_walks" [] .none "law_sn0007_02" 478 177 .none),
  (182, coO "law" "law" 520 152 1 179 180 .none .none (.ref 181) 523 524),
  (183, fnO (tD 19) "law" [] .none "law_sn0007_02" 478 182 .none)]
noncomputable def asK : List Addr := [2, 3, 42, 47, 54, 55, 61, 62, 63, 69, 70, 77, 78, 91, 92, 114, 115, 117, 118, 128, 129, 133, 134, 138, 139, 145, 146, 150, 151, 155, 156, 162, 163, 167, 168, 172, 173, 177, 178, 182, 183]
theorem asK_ok (P : Params) : asK = (KK P).map (·.1) := by kernel_rfl
noncomputable def tHook : Hook where
  α := List (Option Obj) × Option Obj
  obs := fun s => (asK.map s.heap.get?, s.heap.get? 87)
  val := fun w => ((KK w.params).map fun p => some p.2, some { cls := .none, data := .fields #[] })
  says := fun w h => InK KK w h ∧ h.get? 87 = some { cls := .none, data := .fields #[] }
  of := fun w s x => ⟨InK.of asK_ok w s (Prod.mk.inj x).1, (Prod.mk.inj x).2⟩
  keeps := fun w h h' x k => ⟨InK.keeps w h h' x.1 k, k _ _ x.2⟩
end Mine.Internal
end
section
open PySem PySem.W PySem.Calls PyProof.Rows
set_option Elab.async false
namespace Mine.Internal
noncomputable def pf20 : PF := { params := [0, 1, 2], body := [
  (.ex (.accAppend (.var 0) (.tup [(.var 1), (.var 2)])))] }
noncomputable def pf0 : PF := { params := [0, 1, 2], body := [
  (.asg 3 (.fn .max3 [(.var 0), (.var 1), (.var 2)])),
  (.asg 4 (.fn .min3 [(.var 0), (.var 1), (.var 2)])),
  (.asg 5 (.bin .Sub (.var 3) (.var 4))),
  (.asg 6 (.var 3)),
  (.ifs (.cmp1 .Eq (.var 4) (.var 3)) [(.ret (.tup [(.lit (.flt 0)), (.lit (.flt 0)), (.var 6)]))] []),
  (.asg 7 (.bin .Div (.var 5) (.var 3))),
  (.asg 8 (.bin .Div (.bin .Sub (.var 3) (.var 0)) (.var 5))),
  (.asg 9 (.bin .Div (.bin .Sub (.var 3) (.var 1)) (.var 5))),
  (.asg 10 (.bin .Div (.bin .Sub (.var 3) (.var 2)) (.var 5))),
  (.ifs (.cmp1 .Eq (.var 0) (.var 3)) [(.asg 11 (.bin .Sub (.var 10) (.var 9)))] [(.ifs (.cmp1 .Eq (.var 1) (.var 3)) [(.asg 11 (.bin .Sub (.bin .Add (.lit (.flt 4611686018427387904)) (.var 8)) (.var 10)))] [(.asg 11 (.bin .Sub (.bin .Add (.lit (.flt 4616189618054758400)) (.var 9)) (.var 8)))])]),
  (.asg 11 (.bin .Mod (.bin .Div (.var 11) (.lit (.flt 4618441417868443648))) (.lit (.flt 4607182418800017408)))),
  (.ret (.tup [(.var 11), (.var 7), (.var 6)]))] }
noncomputable def pf1 : PF := { params := [0], body := [
  (.ret (.sub 1 (.lit (.str ⟨#[46, 46]⟩)) (.sub 2 (.lit (.str ⟨#[13, 10]⟩)) (.var 0))))] }
noncomputable def pf2 : PF := { params := [0], body := [
  (.asg 1 (.lst [(.lit (.int 1248945)), (.lit (.int 1715898)), (.lit (.int 730074)), (.lit (.int 1348803)), (.lit (.int 208481))])),
  (.asgM 2 (.lst [])),
  (.for1 (.one 3) (.fn .range1 [(.lit (.int 5))]) [(.asg 4 (.bin .Mod (.bin .Add (.idx (.var 1) (.var 3)) (.ite (.cmp1 .Lt (.var 3) (.fn .len [(.var 0)])) (.idx (.var 0) (.var 3)) (.lit (.int 0)))) (.bin .Pow (.lit (.int 10)) (.lit (.int 9))))), (.asg 5 (.lst [(.bin .Mod (.var 4) (.lit (.int 125))), (.bin .Mod (.bin .FloorDiv (.var 4) (.lit (.int 125))) (.lit (.int 125))), (.bin .Mod (.bin .FloorDiv (.var 4) (.lit (.int 15625))) (.lit (.int 125)))])), (.ex (.mlAppend (.var 2) (.bin .Add (.comp (.bin .Add (.bin .Add (.fn .strI [(.bin .Mod (.var 6) (.lit (.int 5)))]) (.fn .strI [(.bin .Mod (.bin .FloorDiv (.var 6) (.lit (.int 5))) (.lit (.int 5)))])) (.fn .strI [(.bin .FloorDiv (.var 6) (.lit (.int 25)))])) (.one 6) (.var 5) .none) (.lst [(.lit (.str ⟨#[50, 50, 50]⟩))]))))]),
  (.ret (.var 2))] }
noncomputable def pf3 : PF := { params := [0], body := [
  (.asg 2 (.comp (.fn .intS [(.var 1)]) (.one 1) (.var 0) .none)),
  (.asg 3 (.fn .minL [(.var 2)])),
  (.asg 4 (.bin .Sub (.fn .maxL [(.var 2)]) (.var 3))),
  (.asgT [5, 6, 7] (.call 0 [(.bin .Div (.idx (.var 2) (.lit (.int 0))) (.lit (.flt 4616189618054758400))), (.bin .Div (.idx (.var 2) (.lit (.int 1))) (.lit (.flt 4616189618054758400))), (.bin .Div (.idx (.var 2) (.lit (.int 2))) (.lit (.flt 4616189618054758400)))])),
  (.asg 8 (.fn .intF [(.bin .Add (.bin .Mult (.bin .Mult (.bin .Mult (.var 5) (.lit (.int 6))) (.var 4)) (.bin .Pow (.lit (.int 2)) (.lit (.int 20)))) (.lit (.flt 4602678819172646912)))])),
  (.ifs (.bor [(.cmp1 .NotEq (.var 7) (.bin .Div (.fn .maxL [(.var 2)]) (.lit (.flt 4616189618054758400)))), (.cmp1 .NotEq (.fn .intF [(.bin .Add (.bin .Mult (.bin .Mult (.var 6) (.fn .maxL [(.var 2)])) (.bin .Pow (.lit (.int 2)) (.lit (.int 20)))) (.lit (.flt 4602678819172646912)))]) (.bin .Mult (.var 4) (.bin .Pow (.lit (.int 2)) (.lit (.int 20)))))]) [(.ret (.neg (.lit (.int 1))))] []),
  (.ifs (.bor [(.bnot (.cmp2 .LtE .Lt (.lit (.flt 0)) (.var 5) (.lit (.flt 4607182418800017408)))), (.cmp1 .NotEq (.bin .Mod (.var 8) (.bin .Pow (.lit (.int 2)) (.lit (.int 20)))) (.lit (.int 0))), (.band [(.cmp1 .Eq (.var 4) (.lit (.int 0))), (.cmp1 .NotEq (.var 5) (.lit (.flt 0)))])]) [(.ret (.neg (.lit (.int 1))))] []),
  (.for1 (.one 9) (.fn .range1 [(.lit (.int 3))]) [(.asg 10 (.bin .Mod (.bin .Sub (.bin .FloorDiv (.var 8) (.bin .Pow (.lit (.int 2)) (.lit (.int 20)))) (.bin .Mult (.bin .Mult (.lit (.int 2)) (.var 9)) (.var 4))) (.fn .max2 [(.lit (.int 1)), (.bin .Mult (.lit (.int 6)) (.var 4))]))), (.ifs (.cmp1 .NotEq (.bin .Sub (.idx (.var 2) (.var 9)) (.var 3)) (.fn .min2 [(.var 4), (.fn .max2 [(.lit (.int 0)), (.bin .Sub (.bin .Mult (.lit (.int 2)) (.var 4)) (.fn .min2 [(.var 10), (.bin .Sub (.bin .Mult (.lit (.int 6)) (.var 4)) (.var 10))]))])])) [(.ret (.neg (.lit (.int 1))))] [])]),
  (.ret (.bin .FloorDiv (.bin .FloorDiv (.var 8) (.bin .Pow (.lit (.int 2)) (.lit (.int 20)))) (.fn .max2 [(.lit (.int 1)), (.var 4)])))] }
noncomputable def pf4 : PF := { params := [0, 1, 2], body := [
  (.asg 3 (.lst [(.cmp2 .Gt .GtE (.var 0) (.var 1) (.var 2)), (.cmp2 .GtE .Gt (.var 1) (.var 0) (.var 2)), (.cmp2 .Gt .GtE (.var 1) (.var 2) (.var 0))])),
  (.asg 3 (.bin .Add (.var 3) (.lst [(.cmp2 .GtE .Gt (.var 2) (.var 1) (.var 0)), (.cmp2 .Gt .GtE (.var 2) (.var 0) (.var 1)), (.cmp2 .GtE .Gt (.var 0) (.var 2) (.var 1))]))),
  (.ret (.ite (.cmp1 .In (.lit (.bool true)) (.var 3)) (.lindex (.var 3) (.lit (.bool true))) (.lit (.int 0))))] }
noncomputable def pf5 : PF := { params := [0], body := [
  (.asg 3 (.comp (.comp (.bin .Sub (.call 4 [(.idx (.var 2) (.lit (.int 0))), (.idx (.var 2) (.lit (.int 1))), (.idx (.var 2) (.lit (.int 2)))]) (.lit (.int 1))) (.one 2) (.var 1) .none) (.one 1) (.var 0) .none)),
  (.asgM 4 (.lst [(.lit (.int 0)), (.lit (.int 0)), (.lit (.int 0)), (.lit (.int 0)), (.lit (.int 0))])),
  (.asgM 5 (.lst [])),
  (.asgM 6 (.lst [(.lst [])])),
  (.whl (.cmp1 .NotEq (.var 6) (.lst [])) [(.asgM 6 (.lst [])), (.for1 (.one 7) (.fn .range1 [(.lit (.int 5))]) [(.asgM 8 (.lst [(.var 7)])), (.asg 9 (.idx (.idx (.var 3) (.var 7)) (.idx (.var 4) (.var 7)))), (.whl (.band [(.cmp1 .GtE (.var 9) (.lit (.int 0))), (.cmp1 .NotIn (.var 9) (.var 8))]) [(.ex (.mlAppend (.var 8) (.var 9))), (.asg 9 (.idx (.idx (.var 3) (.var 9)) (.idx (.var 4) (.var 9))))]), (.ifs (.band [(.cmp1 .Eq (.var 9) (.var 7)), (.cmp1 .Eq (.var 7) (.fn .minL [(.var 8)]))]) [(.ex (.mlAppend (.var 6) (.var 8)))] [])]), (.for1 (.one 8) (.var 6) [(.ex (.mlAppend (.var 5) (.fn .sorted [(.comp (.tup [(.bin .Mult (.lit (.str ⟨#[32]⟩)) (.idx (.var 4) (.var 10))), (.idx (.lit (.str ⟨#[97, 98, 99, 100, 101]⟩)) (.var 10))]) (.one 10) (.var 8) .none)]))), (.for1 (.one 7) (.var 8) [(.seti 4 (.var 7) (.bin .Add (.idx (.var 4) (.var 7)) (.lit (.int 1))))])])]),
  (.ret (.tup [(.var 4), (.fn .sorted [(.var 5)])]))] }
noncomputable def pf6 : PF := { params := [0, 1, 2], body := [
  (.asg 4 (.comp (.ite (.cmp1 .In (.idx (.lit (.str ⟨#[97, 98, 99, 100, 101]⟩)) (.var 3)) (.var 1)) (.bin .Add (.bin .Mult (.lit (.str ⟨#[46]⟩)) (.idx (.var 0) (.var 3))) (.idx (.lit (.str ⟨#[97, 98, 99, 100, 101]⟩)) (.var 3))) (.bin .Add (.idx (.lit (.str ⟨#[97, 98, 99, 100, 101]⟩)) (.var 3)) (.bin .Mult (.lit (.str ⟨#[46]⟩)) (.idx (.var 0) (.var 3))))) (.one 3) (.fn .range1 [(.lit (.int 5))]) .none)),
  (.asg 6 (.call 1 [(.me .join (.lit (.str ⟨#[]⟩)) [(.comp (.bin .Add (.idx (.var 4) (.var 5)) (.idx (.lst [(.lit (.str ⟨#[10]⟩)), (.lit (.str ⟨#[13]⟩)), (.lit (.str ⟨#[13, 10]⟩))]) (.bin .Mod (.bin .Add (.var 2) (.var 5)) (.lit (.int 3))))) (.one 5) (.fn .range1 [(.lit (.int 5))]) .none)])])),
  (.ifs (.cmp1 .NotEq (.var 6) (.me .join (.lit (.str ⟨#[]⟩)) [(.comp (.bin .Add (.bin .Add (.ite (.cmp1 .Eq (.idx (.var 7) (.lit (.int 0))) (.lit (.str ⟨#[46]⟩))) (.lit (.str ⟨#[46]⟩)) (.lit (.str ⟨#[]⟩))) (.var 7)) (.lit (.str ⟨#[13, 10]⟩))) (.one 7) (.var 4) .none)])) [(.ret (.lst []))] []),
  (.ret (.comp (.me .count (.var 8) [(.lit (.str ⟨#[46]⟩))]) (.one 8) (.slc (.me .split (.var 6) [(.lit (.str ⟨#[13, 10]⟩))]) .none (some (.lit (.int 5)))) .none))] }
noncomputable def pf7 : PF := { params := [0, 1], body := [
  (.asg 3 (.comp .acc0 (.one 2) (.var 0) .none)),
  (.for1 (.one 4) (.fn .range1 [(.lit (.int 5))]) [(.for1 (.one 5) (.tup [(.lit (.int 3)), (.lit (.int 2)), (.lit (.int 1)), (.lit (.int 0))]) [(.ex (.meth 20 (.idx (.var 3) (.var 4)) [(.bin .Mult (.lit (.str ⟨#[32]⟩)) (.var 5)), (.idx (.idx (.var 0) (.var 4)) (.var 5))]))])]),
  (.asg 6 (.lst [(.lit (.int 1)), (.lit (.int 1)), (.lit (.int 1)), (.lit (.int 1)), (.lit (.int 1))])),
  (.asgM 7 (.lst [])),
  (.asg 8 (.lit (.str ⟨#[]⟩))),
  (.for1 (.one 9) (.var 1) [(.asg 10 (.var 9)), (.asg 11 .acc0), (.for1 (.one 12) (.fn .range1 [(.lit (.int 21))]) [(.ifs (.bor [(.cmp1 .Eq (.var 10) (.neg (.lit (.int 1)))), (.cmp1 .In (.idx (.lit (.str ⟨#[97, 98, 99, 100, 101]⟩)) (.var 10)) (.var 8))]) [.brk] []), (.asg 13 (.accStr (.var 11))), (.ifs (.cmp1 .In (.idx (.lit (.str ⟨#[97, 98, 99, 100, 101]⟩)) (.var 10)) (.var 13)) [(.asg 14 (.popFrom (.var 11) (some (.fn .len [(.repl (.slc (.var 13) .none (some (.me .index (.var 13) [(.idx (.lit (.str ⟨#[97, 98, 99, 100, 101]⟩)) (.var 10))]))) ⟨#[32]⟩ ⟨#[]⟩)])))), (.for1 (.tup [15, 16]) (.var 14) [(.ifs (.cmp1 .NotEq (.idx (.accPop (.idx (.var 3) (.me .index (.lit (.str ⟨#[97, 98, 99, 100, 101]⟩)) [(.var 16)]))) (.lit (.int 0))) (.var 15)) [(.ret (.tup [(.lst [(.lst [])]), (.var 3)]))] [])]), (.ex (.mlAppend (.var 7) (.fn .sorted [(.var 14)]))), (.asg 6 (.call 6 [(.var 6), (.me .join (.lit (.str ⟨#[]⟩)) [(.comp (.var 18) (.tup [17, 18]) (.var 14) .none)]), (.fn .len [(.var 7)])])), (.ifs (.cmp1 .Eq (.var 6) (.lst [])) [(.ret (.tup [(.lst [(.lst [])]), (.var 3)]))] [])] []), (.asgT [15, 19] (.accPop (.idx (.var 3) (.var 10)))), (.ex (.meth 20 (.idx (.var 3) (.var 10)) [(.var 15), (.var 19)])), (.ex (.meth 20 (.var 11) [(.bin .Mult (.lit (.str ⟨#[32]⟩)) (.bin .Sub (.idx (.var 6) (.var 10)) (.lit (.int 1)))), (.idx (.lit (.str ⟨#[97, 98, 99, 100, 101]⟩)) (.var 10))])), (.asg 10 (.bin .Sub (.call 3 [(.var 19)]) (.lit (.int 1)))), (.ifs (.cmp1 .Lt (.var 10) (.neg (.lit (.int 1)))) [(.ret (.tup [(.lst [(.lst [])]), (.var 3)]))] [])]), (.asg 8 (.bin .Add (.var 8) (.repl (.accStr (.var 11)) ⟨#[32]⟩ ⟨#[]⟩)))]),
  (.ret (.tup [(.fn .sorted [(.var 7)]), (.var 3)]))], opn := true }
noncomputable def pf8 : PF := { params := [0], body := [
  (.asg 1 (.call 2 [(.var 0)])),
  (.asg 2 (.fn .sumL [(.var 0)])),
  (.asg 4 (.comp (.bin .Mod (.bin .Add (.var 2) (.bin .Mult (.bin .Add (.lit (.int 1)) (.bin .Mod (.bin .FloorDiv (.var 2) (.lit (.int 5))) (.lit (.int 4)))) (.var 3))) (.lit (.int 5))) (.one 3) (.fn .range1 [(.lit (.int 5))]) .none)),
  (.asgT [5, 6] (.call 7 [(.var 1), (.var 4)])),
  (.asgT [7, 8] (.call 5 [(.var 1)])),
  (.ifs (.cmp1 .NotEq (.var 5) (.var 8)) [(.ret (.lit (.bool false)))] []),
  (.asg 11 (.comp (.comp (.tup [(.bin .Mult (.lit (.str ⟨#[32]⟩)) (.var 10)), (.idx (.idx (.var 1) (.var 9)) (.var 10))]) (.one 10) (.fn .range3 [(.lit (.int 3)), (.bin .Sub (.idx (.var 7) (.var 9)) (.lit (.int 1))), (.neg (.lit (.int 1)))]) .none) (.one 9) (.fn .range1 [(.lit (.int 5))]) .none)),
  (.ret (.cmp1 .Eq (.comp (.popFrom (.var 12) .none) (.one 12) (.var 6) .none) (.var 11)))] }
noncomputable def F2 : Nat → Option PF
  | 0 => some pf0 | 1 => some pf1 | 2 => some pf2 | 3 => some pf3 | 4 => some pf4 | 5 => some pf5 | 6 => some pf6 | 7 => some pf7 | 20 => some pf20 | _ => none
end Mine.Internal
end
section
open PySem PySem.W PySem.Calls PyProof.Rows
set_option Elab.async false
set_option maxRecDepth 100000
namespace Mine.Internal
noncomputable def sc20 : Sc := [("self", 0), ("fws", 1), ("string", 2)]
noncomputable def sc0 : Sc := [("r", 0), ("g", 1), ("b", 2), ("maxc", 3), ("minc", 4), ("rangec", 5), ("v", 6), ("s", 7), ("rc", 8), ("gc", 9), ("bc", 10), ("h", 11)]
noncomputable def sc1 : Sc := [("data", 0)]
noncomputable def sc2 : Sc := [("script", 0), ("spare", 1), ("arrows", 2), ("k", 3), ("x", 4), ("parts", 5)]
noncomputable def sc3 : Sc := [("text", 0), ("parts", 2), ("least", 3), ("spread", 4), ("hue", 5), ("share", 6), ("value", 7), ("told", 8), ("k", 9), ("way", 10)]
noncomputable def sc4 : Sc := [("red", 0), ("green", 1), ("blue", 2), ("tests", 3)]
noncomputable def sc5 : Sc := [("arrows", 0), ("leads", 3), ("gone", 4), ("rings", 5), ("found", 6), ("k", 7), ("ring", 8), ("to", 9)]
noncomputable def sc6 : Sc := [("dots", 0), ("ring", 1), ("first", 2), ("rows", 4), ("sent", 6)]
noncomputable def sc7 : Sc := [("arrows", 0), ("order", 1), ("piles", 3), ("k", 4), ("above", 5), ("dots", 6), ("rings", 7), ("ended", 8), ("start", 9), ("at", 10), ("way", 11), ("step", 12), ("text", 13), ("ring", 14), ("blanks", 15), ("name", 16), ("arrow", 19)]
noncomputable def sc8 : Sc := [("script", 0), ("arrows", 1), ("total", 2), ("order", 4), ("rings", 5), ("piles", 6), ("gone", 7), ("told", 8), ("left", 11)]
noncomputable def gn : Gn := {
  fn := fun X => ([("rgb_to_hsv", 0), ("quotedata", 1), ("_law_arrows", 2), ("_law_leads", 3), ("_law_sixth", 4), ("_law_at_once", 5), ("_law_sent", 6), ("_law_walks", 7)] : List (Str × Nat)).lookup X
  cst := fun X => ([("CRLF", .str ⟨#[13, 10]⟩)] : List (Str × D)).lookup X
  pat := fun X => ([("_twin_re_1", 1), ("_twin_re_2", 2)] : List (Str × Nat)).lookup X
  cls := "_Accumulator"
  meth := fun X => ([("push", 20)] : List (Str × Nat)).lookup X
  pop := "pop"
  cnt := "part_count" }
noncomputable def fdAt (K : Frag) (a : Addr) : FuncData := match K.lookup a with | some ⟨_, _, .func fd, _⟩ => fd | _ => default
noncomputable def bodyAt (fd : FuncData) : List Stmt := match fd.body with | .stmts b => b | _ => []
end Mine.Internal
end
section
open PySem PySem.W PySem.Calls PyProof.Rows
set_option Elab.async false
set_option maxRecDepth 100000
namespace Mine.Internal
theorem ck0 (P : Params) : chkB gn 60 (fdAt (KK P) 129).scope.names sc0 (bodyAt (fdAt (KK P) 129)) pf0.body = true := by kernel_rfl
theorem ck1 (P : Params) : chkB gn 60 (fdAt (KK P) 146).scope.names sc1 (bodyAt (fdAt (KK P) 146)) pf1.body = true := by kernel_rfl
theorem ck2 (P : Params) : chkB gn 60 (fdAt (KK P) 151).scope.names sc2 (bodyAt (fdAt (KK P) 151)) pf2.body = true := by kernel_rfl
theorem ck3 (P : Params) : chkB gn 60 (fdAt (KK P) 156).scope.names sc3 (bodyAt (fdAt (KK P) 156)) pf3.body = true := by kernel_rfl
theorem ck4 (P : Params) : chkB gn 60 (fdAt (KK P) 163).scope.names sc4 (bodyAt (fdAt (KK P) 163)) pf4.body = true := by kernel_rfl
theorem ck5 (P : Params) : chkB gn 60 (fdAt (KK P) 168).scope.names sc5 (bodyAt (fdAt (KK P) 168)) pf5.body = true := by kernel_rfl
theorem ck6 (P : Params) : chkB gn 60 (fdAt (KK P) 173).scope.names sc6 (bodyAt (fdAt (KK P) 173)) pf6.body = true := by kernel_rfl
theorem ck7 (P : Params) : chkB gn 60 (fdAt (KK P) 178).scope.names sc7 (bodyAt (fdAt (KK P) 178)) pf7.body = true := by kernel_rfl
theorem ck20 (P : Params) : chkB gn 60 (fdAt (KK P) 62).scope.names sc20 (bodyAt (fdAt (KK P) 62)) pf20.body = true := by kernel_rfl
theorem ck8 (P : Params) : chkB gn 60 (fdAt (KK P) 183).scope.names sc8 (bodyAt (fdAt (KK P) 183)) pf8.body = true := by kernel_rfl
end Mine.Internal
end
section
open PySem PySem.W PySem.Calls PyProof.Rows
set_option Elab.async false
set_option maxRecDepth 100000
namespace Mine.Internal
noncomputable def obAt (K : Frag) (a : Addr) : Obj := match K.lookup a with | some o => o | _ => default
noncomputable def statOk (nm : List (Str × NameKind)) (names : List Str) (is : List Nat) (sc : Sc) : Bool :=
  decide names.Nodup && decide is.Nodup && decide (is.length = names.length) && (names.zip is).all (fun p => decide (p ∈ sc)) && names.all (fun x => lc nm x) && sc.all (fun p => lc nm p.1) &&
  sc.all (fun p => sc.all fun q => (!(p.2 == q.2) || p.1 == q.1) && (!(p.1 == q.1) || p.2 == q.2))
theorem fnIs_of {c : Cx} {a : Addr} {fd : FuncData} {body : List Stmt} {names : List Str} {is : List Nat} {sc : Sc} (get : ∃ o, c.K.lookup a = some o ∧ o.data = .func fd) (code : codeIn c.K fd.code fd.qualname = true) (hb : fd.body = .stmts body)
    (bind : ∀ vals : List Value, vals.length = names.length → bindArgs fd ⟨vals, []⟩ = pure (names.zip vals)) (clo : fd.closure = []) (glob : fd.globals = mainGlobals) (blt : fd.builtins = builtinsNs) (co : fd.scope.isCoroutine = false) (gen : fd.scope.isGenerator = false) (kind : fd.scope.kind = .function)
    (h : statOk fd.scope.names names is sc = true) : FnIs c a fd body names is sc := by
  unfold statOk at h
  simp only [Bool.and_eq_true, decide_eq_true_eq, List.all_eq_true, Bool.or_eq_true, Bool.not_eq_true', beq_eq_false_iff_ne, ne_eq, beq_iff_eq] at h
  refine nng fun nG => ?_
  obtain ⟨⟨⟨⟨⟨⟨h1, h2⟩, h3⟩, h4⟩, h5⟩, h6⟩, h7⟩ := h
  refine nG ?_
  clear nG
  refine ⟨get, code, hb, bind, clo, glob, blt, co, gen, kind, h1, h2, h3, fun p hp => h4 p hp, fun x hx => lc_ok (h5 x hx), fun p hp => lc_ok (h6 p hp), fun p hp q hq e => ?_, fun p hp q hq e => ?_⟩
  · rcases (h7 p hp q hq).1 with z | z
    · exact absurd e z
    · exact z
  · rcases (h7 p hp q hq).2 with z | z
    · exact absurd e z
    · exact z
theorem fget_of {K : Frag} {a : Addr} {o : Obj} {fd : FuncData} (h1 : K.lookup a = some o) (h2 : o.data = .func fd) : ∃ o, K.lookup a = some o ∧ o.data = .func fd := ⟨o, h1, h2⟩
theorem vl1 {l : List Value} {P : List Value → Prop} (h : l.length = 1) (k : ∀ a, P [a]) : P l := by
  cases l with
  | nil => cases h
  | cons a l =>
    cases l with
    | nil => exact k a
    | cons b l => exact absurd (Nat.succ.inj h) (Nat.succ_ne_zero _)
theorem vl2 {l : List Value} {P : List Value → Prop} (h : l.length = 2) (k : ∀ a b, P [a, b]) : P l := by
  cases l with
  | nil => cases h
  | cons a l => exact vl1 (P := fun l => P (a :: l)) (Nat.succ.inj h) fun b => k a b
theorem vl3 {l : List Value} {P : List Value → Prop} (h : l.length = 3) (k : ∀ a b c, P [a, b, c]) : P l := by
  cases l with
  | nil => cases h
  | cons a l => exact vl2 (P := fun l => P (a :: l)) (Nat.succ.inj h) fun b => k a b
theorem ba1 {fd : FuncData} {names : List Str} {vals : List Value} (h : vals.length = 1) (k : ∀ a, bindArgs fd ⟨[a], []⟩ = pure (names.zip [a])) : bindArgs fd ⟨vals, []⟩ = pure (names.zip vals) := vl1 (P := fun vals => bindArgs fd ⟨vals, []⟩ = pure (names.zip vals)) h k
theorem ba2 {fd : FuncData} {names : List Str} {vals : List Value} (h : vals.length = 2) (k : ∀ a b, bindArgs fd ⟨[a, b], []⟩ = pure (names.zip [a, b])) : bindArgs fd ⟨vals, []⟩ = pure (names.zip vals) := vl2 (P := fun vals => bindArgs fd ⟨vals, []⟩ = pure (names.zip vals)) h k
theorem ba3 {fd : FuncData} {names : List Str} {vals : List Value} (h : vals.length = 3) (k : ∀ a b c, bindArgs fd ⟨[a, b, c], []⟩ = pure (names.zip [a, b, c])) : bindArgs fd ⟨vals, []⟩ = pure (names.zip vals) := vl3 (P := fun vals => bindArgs fd ⟨vals, []⟩ = pure (names.zip vals)) h k
theorem fi0 {c : Cx} (P : Params) (hK : c.K = KK P) : FnIs c 129 (fdAt (KK P) 129) (bodyAt (fdAt (KK P) 129)) ["r", "g", "b"] pf0.params sc0 := by
  refine fnIs_of (by rw [hK]; exact fget_of (o := obAt (KK P) 129) (by kernel_rfl) (by kernel_rfl)) (by rw [hK]; kernel_rfl) (by kernel_rfl) (fun vals h => ba3 h fun a0 a1 a2 => ?_) (by kernel_rfl) (by kernel_rfl) (by kernel_rfl) (by kernel_rfl) (by kernel_rfl) (by kernel_rfl) (by kernel_rfl)
  kernel_rfl
theorem fi1 {c : Cx} (P : Params) (hK : c.K = KK P) : FnIs c 146 (fdAt (KK P) 146) (bodyAt (fdAt (KK P) 146)) ["data"] pf1.params sc1 := by
  refine fnIs_of (by rw [hK]; exact fget_of (o := obAt (KK P) 146) (by kernel_rfl) (by kernel_rfl)) (by rw [hK]; kernel_rfl) (by kernel_rfl) (fun vals h => ba1 h fun a0 => ?_) (by kernel_rfl) (by kernel_rfl) (by kernel_rfl) (by kernel_rfl) (by kernel_rfl) (by kernel_rfl) (by kernel_rfl)
  kernel_rfl
theorem fi2 {c : Cx} (P : Params) (hK : c.K = KK P) : FnIs c 151 (fdAt (KK P) 151) (bodyAt (fdAt (KK P) 151)) ["script"] pf2.params sc2 := by
  refine fnIs_of (by rw [hK]; exact fget_of (o := obAt (KK P) 151) (by kernel_rfl) (by kernel_rfl)) (by rw [hK]; kernel_rfl) (by kernel_rfl) (fun vals h => ba1 h fun a0 => ?_) (by kernel_rfl) (by kernel_rfl) (by kernel_rfl) (by kernel_rfl) (by kernel_rfl) (by kernel_rfl) (by kernel_rfl)
  kernel_rfl
theorem fi3 {c : Cx} (P : Params) (hK : c.K = KK P) : FnIs c 156 (fdAt (KK P) 156) (bodyAt (fdAt (KK P) 156)) ["text"] pf3.params sc3 := by
  refine fnIs_of (by rw [hK]; exact fget_of (o := obAt (KK P) 156) (by kernel_rfl) (by kernel_rfl)) (by rw [hK]; kernel_rfl) (by kernel_rfl) (fun vals h => ba1 h fun a0 => ?_) (by kernel_rfl) (by kernel_rfl) (by kernel_rfl) (by kernel_rfl) (by kernel_rfl) (by kernel_rfl) (by kernel_rfl)
  kernel_rfl
theorem fi4 {c : Cx} (P : Params) (hK : c.K = KK P) : FnIs c 163 (fdAt (KK P) 163) (bodyAt (fdAt (KK P) 163)) ["red", "green", "blue"] pf4.params sc4 := by
  refine fnIs_of (by rw [hK]; exact fget_of (o := obAt (KK P) 163) (by kernel_rfl) (by kernel_rfl)) (by rw [hK]; kernel_rfl) (by kernel_rfl) (fun vals h => ba3 h fun a0 a1 a2 => ?_) (by kernel_rfl) (by kernel_rfl) (by kernel_rfl) (by kernel_rfl) (by kernel_rfl) (by kernel_rfl) (by kernel_rfl)
  kernel_rfl
theorem fi5 {c : Cx} (P : Params) (hK : c.K = KK P) : FnIs c 168 (fdAt (KK P) 168) (bodyAt (fdAt (KK P) 168)) ["arrows"] pf5.params sc5 := by
  refine fnIs_of (by rw [hK]; exact fget_of (o := obAt (KK P) 168) (by kernel_rfl) (by kernel_rfl)) (by rw [hK]; kernel_rfl) (by kernel_rfl) (fun vals h => ba1 h fun a0 => ?_) (by kernel_rfl) (by kernel_rfl) (by kernel_rfl) (by kernel_rfl) (by kernel_rfl) (by kernel_rfl) (by kernel_rfl)
  kernel_rfl
theorem fi6 {c : Cx} (P : Params) (hK : c.K = KK P) : FnIs c 173 (fdAt (KK P) 173) (bodyAt (fdAt (KK P) 173)) ["dots", "ring", "first"] pf6.params sc6 := by
  refine fnIs_of (by rw [hK]; exact fget_of (o := obAt (KK P) 173) (by kernel_rfl) (by kernel_rfl)) (by rw [hK]; kernel_rfl) (by kernel_rfl) (fun vals h => ba3 h fun a0 a1 a2 => ?_) (by kernel_rfl) (by kernel_rfl) (by kernel_rfl) (by kernel_rfl) (by kernel_rfl) (by kernel_rfl) (by kernel_rfl)
  kernel_rfl
theorem fi7 {c : Cx} (P : Params) (hK : c.K = KK P) : FnIs c 178 (fdAt (KK P) 178) (bodyAt (fdAt (KK P) 178)) ["arrows", "order"] pf7.params sc7 := by
  refine fnIs_of (by rw [hK]; exact fget_of (o := obAt (KK P) 178) (by kernel_rfl) (by kernel_rfl)) (by rw [hK]; kernel_rfl) (by kernel_rfl) (fun vals h => ba2 h fun a0 a1 => ?_) (by kernel_rfl) (by kernel_rfl) (by kernel_rfl) (by kernel_rfl) (by kernel_rfl) (by kernel_rfl) (by kernel_rfl)
  kernel_rfl
theorem fi20 {c : Cx} (P : Params) (hK : c.K = KK P) : FnIs c 62 (fdAt (KK P) 62) (bodyAt (fdAt (KK P) 62)) ["self", "fws", "string"] pf20.params sc20 := by
  refine fnIs_of (by rw [hK]; exact fget_of (o := obAt (KK P) 62) (by kernel_rfl) (by kernel_rfl)) (by rw [hK]; kernel_rfl) (by kernel_rfl) (fun vals h => ba3 h fun a0 a1 a2 => ?_) (by kernel_rfl) (by kernel_rfl) (by kernel_rfl) (by kernel_rfl) (by kernel_rfl) (by kernel_rfl) (by kernel_rfl)
  kernel_rfl
theorem fi8 {c : Cx} (P : Params) (hK : c.K = KK P) : FnIs c 183 (fdAt (KK P) 183) (bodyAt (fdAt (KK P) 183)) ["script"] pf8.params sc8 := by
  refine fnIs_of (by rw [hK]; exact fget_of (o := obAt (KK P) 183) (by kernel_rfl) (by kernel_rfl)) (by rw [hK]; kernel_rfl) (by kernel_rfl) (fun vals h => ba1 h fun a0 => ?_) (by kernel_rfl) (by kernel_rfl) (by kernel_rfl) (by kernel_rfl) (by kernel_rfl) (by kernel_rfl) (by kernel_rfl)
  kernel_rfl
end Mine.Internal
end
section
open PySem PySem.W PySem.Calls PyProof.Rows
set_option Elab.async false
set_option maxRecDepth 100000
namespace Mine.Internal
theorem cls_k (P : Params) : ClsK (KK P) 118 := by
  refine ⟨⟨(obAt (KK P) 118).cls, (obAt (KK P) 118).dict, (match (obAt (KK P) 118).data with | .cls cd => cd | _ => default), (obAt (KK P) 118).slots, by kernel_rfl, by kernel_rfl, by kernel_rfl, by kernel_rfl, by kernel_rfl, by kernel_rfl⟩, by kernel_rfl, by kernel_rfl, by kernel_rfl, by kernel_rfl, by kernel_rfl⟩
theorem fnv_k (P : Params) (f : Fn) : globIn (KK P) f.name = some f.val := by
  cases f <;> kernel_rfl
theorem in_get {K : Frag} {h : Heap} (X : K.In h) {a : Addr} {o : Obj} (e : K.lookup a = some o) : h.get? a = some o := X a o e
noncomputable abbrev flds (P : Params) (a : Addr) : Array Value := match (obAt (KK P) a).data with | .fields fs => fs | _ => #[]
noncomputable abbrev seqOf (P : Params) (a : Addr) : Array Value := match (obAt (KK P) a).data with | .seq fs _ => fs | _ => #[]
noncomputable abbrev seqN (P : Params) (a : Addr) : Nat := match (obAt (KK P) a).data with | .seq _ n => n | _ => 0
theorem pat_1 (P : Params) {h : Heap} (X : (KK P).In h) : Pat h 134 code1 :=
  ⟨fun _ k => k (obAt (KK P) 134) (flds P 134) 133 (obAt (KK P) 133) (seqOf P 133) (seqN P 133) (X _ _ (by kernel_rfl)) (by kernel_rfl) (by kernel_rfl) (by kernel_rfl) (by kernel_rfl) (by kernel_rfl) (by kernel_rfl) (X _ _ (by kernel_rfl)) (by kernel_rfl) (by kernel_rfl) (by kernel_rfl)⟩
theorem pat_2 (P : Params) {h : Heap} (X : (KK P).In h) : Pat h 139 code2 :=
  ⟨fun _ k => k (obAt (KK P) 139) (flds P 139) 138 (obAt (KK P) 138) (seqOf P 138) (seqN P 138) (X _ _ (by kernel_rfl)) (by kernel_rfl) (by kernel_rfl) (by kernel_rfl) (by kernel_rfl) (by kernel_rfl) (by kernel_rfl) (X _ _ (by kernel_rfl)) (by kernel_rfl) (by kernel_rfl) (by kernel_rfl)⟩
end Mine.Internal
end
section
open PySem PySem.W PySem.Calls PyProof.Rows
set_option Elab.async false
set_option maxRecDepth 100000
namespace Mine.Internal
noncomputable def hdArg (fd : FuncData) : Arg := match (fd.params.posonlyargs ++ fd.params.args).head? with | some a => a | _ => default
noncomputable def refOf (v : Value) : Addr := match v with | .ref a => a | _ => 0
noncomputable def strOf (v : Option Value) : Str := match v with | some (.str x _) => x | _ => default
noncomputable def tokOf (v : Option Value) : Tok := match v with | some (.str _ t) => t | _ => default
theorem noCell_of {nm : List (Str × NameKind)} (h : nm.all (fun x => !(x.2 == .cell)) = true) : ∀ x ∈ nm, x.2 ≠ .cell := fun x hx e => by
  have := List.all_eq_true.mp h x hx
  rw [e] at this; cases this
theorem sup_init (P : Params) : SupFn PySem.Challenge.pw_sn0007_02 (KK P) 118 55 (fdAt (KK P) 55) [.Assign [.Attribute (.Name "self" ⟨10, 8, 10, 12⟩) "_initial_size" ⟨10, 8, 10, 26⟩] (.Name "initial_size" ⟨10, 29, 10, 41⟩) ⟨10, 8, 10, 41⟩, .Expr (superE ⟨11, 8, 11, 13⟩ ⟨11, 8, 11, 15⟩ ⟨11, 8, 11, 24⟩ ⟨11, 8, 11, 26⟩ "__init__") ⟨11, 8, 11, 26⟩] := by
  refine ⟨fun _ k => k (obAt (KK P) 55) (by kernel_rfl) (by kernel_rfl), by kernel_rfl, by kernel_rfl, by kernel_rfl, by kernel_rfl, by kernel_rfl, ?_, by kernel_rfl, by kernel_rfl, by kernel_rfl, fun _ k => k (hdArg (fdAt (KK P) 55)) (by kernel_rfl) (by kernel_rfl),
    fun _ k => k 42 (obAt (KK P) 42) (by kernel_rfl) (by kernel_rfl) (by kernel_rfl), by kernel_rfl, by kernel_rfl, fun _ k => k (refOf (fdAt (KK P) 55).code) (obAt (KK P) (refOf (fdAt (KK P) 55).code)) (flds P (refOf (fdAt (KK P) 55).code)) (strOf ((flds P (refOf (fdAt (KK P) 55).code))[2]?)) (tokOf ((flds P (refOf (fdAt (KK P) 55).code))[2]?)) (by kernel_rfl) (by kernel_rfl) (by kernel_rfl) (by kernel_rfl) (by kernel_rfl), by kernel_rfl⟩
  exact noCell_of (by kernel_rfl)
theorem sup_cnt (P : Params) : SupFn PySem.Challenge.pw_sn0007_02 (KK P) 118 115 (fdAt (KK P) 115) [.Return (some (superE ⟨39, 15, 39, 20⟩ ⟨39, 15, 39, 22⟩ ⟨39, 15, 39, 30⟩ ⟨39, 15, 39, 32⟩ "__len__")) ⟨39, 8, 39, 32⟩] := by
  refine ⟨fun _ k => k (obAt (KK P) 115) (by kernel_rfl) (by kernel_rfl), by kernel_rfl, by kernel_rfl, by kernel_rfl, by kernel_rfl, by kernel_rfl, ?_, by kernel_rfl, by kernel_rfl, by kernel_rfl, fun _ k => k (hdArg (fdAt (KK P) 115)) (by kernel_rfl) (by kernel_rfl),
    fun _ k => k 42 (obAt (KK P) 42) (by kernel_rfl) (by kernel_rfl) (by kernel_rfl), by kernel_rfl, by kernel_rfl, fun _ k => k (refOf (fdAt (KK P) 115).code) (obAt (KK P) (refOf (fdAt (KK P) 115).code)) (flds P (refOf (fdAt (KK P) 115).code)) (strOf ((flds P (refOf (fdAt (KK P) 115).code))[2]?)) (tokOf ((flds P (refOf (fdAt (KK P) 115).code))[2]?)) (by kernel_rfl) (by kernel_rfl) (by kernel_rfl) (by kernel_rfl) (by kernel_rfl), by kernel_rfl⟩
  exact noCell_of (by kernel_rfl)
theorem sup_pop (P : Params) : SupFn PySem.Challenge.pw_sn0007_02 (KK P) 118 78 (fdAt (KK P) 78) [.If (.Compare (.Call (.Attribute (.Name "self" ⟨22, 11, 22, 15⟩) "part_count" ⟨22, 11, 22, 26⟩) [] [] ⟨22, 11, 22, 28⟩) [.Eq] [.Constant (.int 0) 0 ⟨22, 32, 22, 33⟩] ⟨22, 11, 22, 33⟩) [.Return (some (.Tuple [.Constant (.str "") 0 ⟨23, 20, 23, 22⟩, .Constant (.str "") 0 ⟨23, 24, 23, 26⟩] 0 ⟨23, 19, 23, 27⟩)) ⟨23, 12, 23, 27⟩] [] ⟨22, 8, 23, 27⟩,
        .Return (some (superE ⟨24, 15, 24, 20⟩ ⟨24, 15, 24, 22⟩ ⟨24, 15, 24, 26⟩ ⟨24, 15, 24, 28⟩ "pop")) ⟨24, 8, 24, 28⟩] := by
  refine ⟨fun _ k => k (obAt (KK P) 78) (by kernel_rfl) (by kernel_rfl), by kernel_rfl, by kernel_rfl, by kernel_rfl, by kernel_rfl, by kernel_rfl, ?_, by kernel_rfl, by kernel_rfl, by kernel_rfl, fun _ k => k (hdArg (fdAt (KK P) 78)) (by kernel_rfl) (by kernel_rfl),
    fun _ k => k 42 (obAt (KK P) 42) (by kernel_rfl) (by kernel_rfl) (by kernel_rfl), by kernel_rfl, by kernel_rfl, fun _ k => k (refOf (fdAt (KK P) 78).code) (obAt (KK P) (refOf (fdAt (KK P) 78).code)) (flds P (refOf (fdAt (KK P) 78).code)) (strOf ((flds P (refOf (fdAt (KK P) 78).code))[2]?)) (tokOf ((flds P (refOf (fdAt (KK P) 78).code))[2]?)) (by kernel_rfl) (by kernel_rfl) (by kernel_rfl) (by kernel_rfl) (by kernel_rfl), by kernel_rfl⟩
  exact noCell_of (by kernel_rfl)
end Mine.Internal
end
section
open PySem PySem.W PySem.Calls PyProof.Rows
set_option Elab.async false
set_option maxRecDepth 100000
namespace Mine.Internal
theorem binds_s {s : Shared} {fd : FuncData} {a v0 : Value} {o : Obj} {n : Nat} {q1 q2 q3 : Pos} {t : Addr} (hp : fd.params = { posonlyargs := [], args := [⟨"self", none, q1⟩, ⟨"initial_size", none, q2⟩], vararg := none, kwonlyargs := [], kw_defaults := [], kwarg := none, defaults := [.Constant (.int 0) 0 q3] })
    (hd : fd.defaults = .ref t) (ho : s.heap.get? t = some o) (hs : o.data = .seq #[v0] n) : BindsTo s fd ⟨[a], []⟩ [("self", a), ("initial_size", v0)] := by
  cases fd
  dsimp only at hp hd
  subst hp; subst hd
  exact BindsTo.of_defaults rfl ho hs rfl rfl
theorem binds_i {s : Shared} {fd : FuncData} {a v0 : Value} {o : Obj} {n : Nat} {q1 q2 q3 : Pos} {t : Addr} (hp : fd.params = { posonlyargs := [], args := [⟨"self", none, q1⟩, ⟨"i", none, q2⟩], vararg := none, kwonlyargs := [], kw_defaults := [], kwarg := none, defaults := [.Constant (.int 0) 0 q3] })
    (hd : fd.defaults = .ref t) (ho : s.heap.get? t = some o) (hs : o.data = .seq #[v0] n) : BindsTo s fd ⟨[a], []⟩ [("self", a), ("i", v0)] := by
  cases fd
  dsimp only at hp hd
  subst hp; subst hd
  exact BindsTo.of_defaults rfl ho hs rfl rfl
theorem binds_i2 {s : Shared} {fd : FuncData} {a b v0 : Value} {o : Obj} {n : Nat} {q1 q2 q3 : Pos} {t : Addr} (hp : fd.params = { posonlyargs := [], args := [⟨"self", none, q1⟩, ⟨"i", none, q2⟩], vararg := none, kwonlyargs := [], kw_defaults := [], kwarg := none, defaults := [.Constant (.int 0) 0 q3] })
    (hd : fd.defaults = .ref t) (ho : s.heap.get? t = some o) (hs : o.data = .seq #[v0] n) : BindsTo s fd ⟨[a, b], []⟩ [("self", a), ("i", b)] := by
  cases fd
  dsimp only at hp hd
  subst hp; subst hd
  exact BindsTo.of_defaults rfl ho hs rfl rfl
theorem noFree_of {nm : List (Str × NameKind)} (h : nm.all (fun x => !(x.2 == .free)) = true) : ∀ x ∈ nm, x.2 ≠ .free := fun x hx e => by
  have := List.all_eq_true.mp h x hx
  rw [e] at this; cases this
noncomputable def sigPop : Manifest.Signature := match Manifest.signature? "list.pop" with | some s => s | none => ⟨.hand, "", "", .none, []⟩
noncomputable abbrev cdAt (P : Params) : ClassData := match (obAt (KK P) 118).data with | .cls cd => cd | _ => default
noncomputable abbrev dflt0 (P : Params) (t : Addr) : Value := match (seqOf P t)[0]? with | some v => v | none => .none
section
variable {c : Cx} (P : Params)
theorem init_k (hK : c.K = KK P) (hC : c.C = 118) (hp : c.prog = PySem.Challenge.pw_sn0007_02) : InitK c 55 := by
  refine ⟨?_, ?_, ?_, ?_, ?_, ?_, ?_, ?_⟩ <;> rw [hK] <;> (try rw [hC])
  · exact cls_k P
  · kernel_rfl
  · kernel_rfl
  · kernel_rfl
  · kernel_rfl
  · kernel_rfl
  · rw [hp]
    exact fun _ k => k _ _ _ _ _ _ _ _ _ _ (dflt0 P 47) (sup_init P) rfl (fun s a X => binds_s (q1 := ⟨9, 17, 9, 21⟩) (q2 := ⟨9, 23, 9, 35⟩) (q3 := ⟨9, 36, 9, 37⟩) (by kernel_rfl) (by kernel_rfl) (X 47 (obAt (KK P) 47) (by kernel_rfl)) (n := seqN P 47) (by kernel_rfl)) (by kernel_rfl)
  · kernel_rfl
theorem cnt_k (hK : c.K = KK P) (hC : c.C = 118) (hp : c.prog = PySem.Challenge.pw_sn0007_02) : CountK c 115 := by
  refine ⟨?_, ?_, ?_, ?_, ?_, ?_⟩ <;> rw [hK] <;> (try rw [hC])
  · exact cls_k P
  · kernel_rfl
  · kernel_rfl
  · kernel_rfl
  · rw [hp]
    exact fun _ k => k _ _ _ _ _ _ (sup_cnt P) rfl fun a => by kernel_rfl
  · kernel_rfl
theorem pop_k (hK : c.K = KK P) (hC : c.C = 118) (hp : c.prog = PySem.Challenge.pw_sn0007_02) : PopK c 115 78 := by
  refine ⟨cnt_k P hK hC hp, ?_, ?_, ?_, ?_, ?_⟩ <;> rw [hK] <;> (try rw [hC])
  · kernel_rfl
  · kernel_rfl
  · rw [hp]
    exact fun _ k => k _ _ _ _ _ _ _ _ _ _ _ _ _ _ _ _ _ _ _ _ (sup_pop P) rfl rfl fun a => by kernel_rfl
  · kernel_rfl
  · exact ⟨cdAt P, sigPop, by kernel_rfl, by kernel_rfl, fun a => by kernel_rfl⟩
theorem popF_k (hK : c.K = KK P) (hC : c.C = 118) : PopFK c 70 (dflt0 P 63) := by
  refine ⟨?_, ?_, ?_, ?_, ?_, ?_, ?_⟩ <;> (try rw [hK]) <;> (try rw [hC])
  · exact cls_k P
  · kernel_rfl
  · kernel_rfl
  · kernel_rfl
  · kernel_rfl
  · exact ⟨324, by kernel_rfl⟩
  · exact fun _ k => k (fdAt (KK P) 70) ⟨17, 8, 17, 14⟩ ⟨17, 17, 17, 21⟩ ⟨17, 22, 17, 23⟩ ⟨17, 22, 17, 24⟩ ⟨17, 17, 17, 25⟩ ⟨17, 8, 17, 25⟩ ⟨18, 8, 18, 12⟩ ⟨18, 13, 18, 14⟩ ⟨18, 13, 18, 15⟩ ⟨18, 8, 18, 16⟩ ⟨18, 19, 18, 21⟩ ⟨18, 8, 18, 21⟩ ⟨19, 15, 19, 21⟩ ⟨19, 8, 19, 21⟩
      (obAt (KK P) 70) (by kernel_rfl) (by kernel_rfl) (by kernel_rfl) (by kernel_rfl) (by kernel_rfl) (by kernel_rfl) (by kernel_rfl) (noCell_of (by kernel_rfl)) (by kernel_rfl) (by kernel_rfl) (by kernel_rfl)
      (fun s a X => binds_i (q1 := ⟨16, 17, 16, 21⟩) (q2 := ⟨16, 23, 16, 24⟩) (q3 := ⟨16, 25, 16, 26⟩) (by kernel_rfl) (by kernel_rfl) (X 63 (obAt (KK P) 63) (by kernel_rfl)) (n := seqN P 63) (by kernel_rfl)) fun s a b X => binds_i2 (v0 := dflt0 P 63) (q1 := ⟨16, 17, 16, 21⟩) (q2 := ⟨16, 23, 16, 24⟩) (q3 := ⟨16, 25, 16, 26⟩) (by kernel_rfl) (by kernel_rfl) (X 63 (obAt (KK P) 63) (by kernel_rfl)) (n := seqN P 63) (by kernel_rfl)
theorem str_k (hK : c.K = KK P) (hC : c.C = 118) (hT : c.TC = 91) (hm : ∃ mg bm ob, BMod c.s₀.heap mainGlobals mg bm ob) : StrK c 92 := by
  refine ⟨?_, ?_, ?_, ?_, ?_, hm, ?_⟩ <;> rw [hK] <;> (try rw [hC])
  · exact cls_k P
  · kernel_rfl
  · kernel_rfl
  · kernel_rfl
  · exact ⟨291, by kernel_rfl⟩
  · rw [hT]
    exact fun _ k => k (fdAt (KK P) 92) ⟨30, 33, 30, 44⟩ ⟨30, 33, 30, 49⟩ ⟨30, 51, 30, 54⟩ ⟨30, 56, 30, 60⟩ ⟨30, 50, 30, 61⟩ ⟨30, 33, 30, 62⟩ ⟨30, 67, 30, 70⟩ ⟨30, 72, 30, 76⟩ ⟨30, 67, 30, 76⟩ ⟨30, 80, 30, 84⟩ ⟨30, 32, 30, 85⟩ 0 0
      { kind := .function, names := [(".0", .local), ("fws", .local), ("part", .local), ("EMPTYSTRING", .globalImplicit)], isGenerator := true, isCoroutine := false, more := [] } ⟨30, 15, 30, 26⟩ ⟨30, 15, 30, 31⟩ ⟨30, 15, 30, 86⟩ ⟨30, 8, 30, 86⟩
      (obAt (KK P) 92) (by kernel_rfl) (by kernel_rfl) (by kernel_rfl) (by kernel_rfl) (by kernel_rfl) rfl rfl (by kernel_rfl) (by kernel_rfl) (by kernel_rfl) (noCell_of (by kernel_rfl)) (by kernel_rfl) (by kernel_rfl) (by kernel_rfl) (fun a => by kernel_rfl)
      rfl rfl (noCell_of (by kernel_rfl)) (fun env => closureFor_none (noFree_of (by kernel_rfl))) (by kernel_rfl) (by kernel_rfl) (by kernel_rfl) (by kernel_rfl)
theorem tb (hK : c.K = KK P) (hC : c.C = 118) (hT : c.TC = 91) (hm : ∃ mg bm ob, BMod c.s₀.heap mainGlobals mg bm ob) (hp : c.prog = PySem.Challenge.pw_sn0007_02) (O : Ok c) : TB c F2 gn := by
  refine ⟨O, fun f => ?_, fun X d h => ?_, fun X k h => ?_, fun X f h => ?_, ?_, ⟨55, init_k P hK hC hp⟩, ?_, ?_, fun X f h => ?_, ⟨115, cnt_k P hK hC hp, ?_⟩, rfl, ⟨115, 78, pop_k P hK hC hp, ?_⟩, rfl, ⟨70, dflt0 P 63, popF_k P hK hC, ?_⟩, ⟨92, str_k P hK hC hT hm⟩⟩
  · rw [hK]; exact fnv_k P f
  · have h := mem_of_lookup h
    simp only [List.mem_cons, List.not_mem_nil, or_false, Prod.mk.injEq] at h
    obtain ⟨rfl, rfl⟩ := h
    exact ⟨.str ⟨#[13, 10]⟩ 469, by rw [hK]; kernel_rfl, fun _ _ => .str _ _⟩
  · have h := mem_of_lookup h
    simp only [List.mem_cons, List.not_mem_nil, or_false, Prod.mk.injEq] at h
    rcases h with ⟨rfl, rfl⟩ | ⟨rfl, rfl⟩
    · exact ⟨134, by rw [hK]; kernel_rfl, fun h X => pat_1 P (by rw [← hK]; exact X)⟩
    · exact ⟨139, by rw [hK]; kernel_rfl, fun h X => pat_2 P (by rw [← hK]; exact X)⟩
  · have h := mem_of_lookup h
    simp only [List.mem_cons, List.not_mem_nil, or_false, Prod.mk.injEq] at h
    rcases h with ⟨rfl, rfl⟩ | ⟨rfl, rfl⟩ | ⟨rfl, rfl⟩ | ⟨rfl, rfl⟩ | ⟨rfl, rfl⟩ | ⟨rfl, rfl⟩ | ⟨rfl, rfl⟩ | ⟨rfl, rfl⟩
    · exact ⟨129, by rw [hK]; kernel_rfl, by rw [hK]; kernel_rfl, ⟨_, _, _, sc0, pf0, 60, rfl, fi0 P hK, ck0 P⟩⟩
    · exact ⟨146, by rw [hK]; kernel_rfl, by rw [hK]; kernel_rfl, ⟨_, _, _, sc1, pf1, 60, rfl, fi1 P hK, ck1 P⟩⟩
    · exact ⟨151, by rw [hK]; kernel_rfl, by rw [hK]; kernel_rfl, ⟨_, _, _, sc2, pf2, 60, rfl, fi2 P hK, ck2 P⟩⟩
    · exact ⟨156, by rw [hK]; kernel_rfl, by rw [hK]; kernel_rfl, ⟨_, _, _, sc3, pf3, 60, rfl, fi3 P hK, ck3 P⟩⟩
    · exact ⟨163, by rw [hK]; kernel_rfl, by rw [hK]; kernel_rfl, ⟨_, _, _, sc4, pf4, 60, rfl, fi4 P hK, ck4 P⟩⟩
    · exact ⟨168, by rw [hK]; kernel_rfl, by rw [hK]; kernel_rfl, ⟨_, _, _, sc5, pf5, 60, rfl, fi5 P hK, ck5 P⟩⟩
    · exact ⟨173, by rw [hK]; kernel_rfl, by rw [hK]; kernel_rfl, ⟨_, _, _, sc6, pf6, 60, rfl, fi6 P hK, ck6 P⟩⟩
    · exact ⟨178, by rw [hK]; kernel_rfl, by rw [hK]; kernel_rfl, ⟨_, _, _, sc7, pf7, 60, rfl, fi7 P hK, ck7 P⟩⟩
  · rw [hK, hC]; kernel_rfl
  · rw [hK, hC]; exact cls_k P
  · rw [hK, hC]; kernel_rfl
  · have h := mem_of_lookup h
    simp only [List.mem_cons, List.not_mem_nil, or_false, Prod.mk.injEq] at h
    obtain ⟨rfl, rfl⟩ := h
    exact ⟨62, by rw [hK, hC]; kernel_rfl, by rw [hK]; kernel_rfl, by rw [hK]; kernel_rfl, ⟨_, _, _, sc20, pf20, 60, rfl, fi20 P hK, ck20 P⟩⟩
  · rw [hK]; kernel_rfl
  · rw [hK]; kernel_rfl
  · rw [hK]; kernel_rfl
end
end Mine.Internal
end
section
open PySem PySem.W PySem.Calls PyProof.Rows
set_option Elab.async false
set_option linter.unusedVariables false
namespace Mine.Internal
section
variable {F : Nat → Option PF} {n f i k : Nat} {σ σ₁ σ₂ σ₃ : Vars} {st s1 s2 s3 s4 : Store} {a b c e : PE} {x y z d : D} {op : Operator} {o o₁ o₂ : CmpOp} {ds es : List D} {l : List PE} {b₁ b₂ : Bool}
theorem r_lit : ev F (n + 1) σ st (.lit d) = some (d, st) := rfl
theorem r_var (h : σ.get i = some d) : ev F (n + 1) σ st (.var i) = some (d, st) := congrArg (Option.map fun d => (d, st)) h
theorem bd {α β : Type} {o : Option α} {g : α → Option β} {a : α} {r : Option β} (h : o = some a) (k : g a = r) : o.bind g = r := by rw [h]; exact k
theorem mp {α β : Type} {o : Option α} {g : α → β} {a : α} (h : o = some a) : o.map g = some (g a) := by rw [h]; rfl
theorem r_bin (ha : ev F n σ st a = some (x, s1)) (hb : ev F n σ s1 b = some (y, s2)) (h : binP op x y = some d) : ev F (n + 1) σ st (.bin op a b) = some (d, s2) := bd ha (bd hb (mp h))
theorem r_neg {j : Int} (ha : ev F n σ st a = some (.int j, s1)) : ev F (n + 1) σ st (.neg a) = some (.int (-j), s1) := bd ha rfl
theorem r_cmp1 (ha : ev F n σ st a = some (x, s1)) (hb : ev F n σ s1 b = some (y, s2)) (h : cmpP s2 o x y = some b₁) : ev F (n + 1) σ st (.cmp1 o a b) = some (.bool b₁, s2) := bd ha (bd hb (mp h))
theorem r_iteT (h : evT F n σ st c = some (true, s1)) (h2 : ev F n σ s1 a = some (d, s2)) : ev F (n + 1) σ st (.ite c a b) = some (d, s2) := bd h h2
theorem r_iteF (h : evT F n σ st c = some (false, s1)) (h2 : ev F n σ s1 b = some (d, s2)) : ev F (n + 1) σ st (.ite c a b) = some (d, s2) := bd h h2
theorem r_idx (ha : ev F n σ st a = some (x, s1)) (hb : ev F n σ s1 b = some (y, s2)) (h : idxP s2 x y = some d) : ev F (n + 1) σ st (.idx a b) = some (d, s2) := bd ha (bd hb (mp h))
theorem r_slc {lo hi : Option PE} {u v : Option D} (ha : ev F n σ st a = some (x, s1)) (hl : evO F n σ s1 lo = some (u, s2)) (hh : evO F n σ s2 hi = some (v, s3)) (h : slcP x u v = some d) : ev F (n + 1) σ st (.slc a lo hi) = some (d, s3) := bd ha (bd hl (bd hh (mp h)))
theorem ro_none : evO F (n + 1) σ st none = some (none, st) := rfl
theorem ro_some (h : ev F n σ st a = some (x, s1)) : evO F (n + 1) σ st (some a) = some (some x, s1) := mp h
theorem r_tup (h : evs F n σ st l = some (ds, s1)) : ev F (n + 1) σ st (.tup l) = some (.tup ds, s1) := mp h
theorem r_lst (h : evs F n σ st l = some (ds, s1)) : ev F (n + 1) σ st (.lst l) = some (.lst ds, s1) := mp h
theorem rs_nil : evs F (n + 1) σ st [] = some ([], st) := rfl
theorem rs_cons (h : ev F n σ st a = some (x, s1)) (h2 : evs F n σ s1 l = some (ds, s2)) : evs F (n + 1) σ st (a :: l) = some (x :: ds, s2) := bd h (mp h2)
theorem r_fn {g : Fn} (h : evs F n σ st l = some (ds, s1)) (h2 : fnP s1 g ds = some d) : ev F (n + 1) σ st (.fn g l) = some (d, s1) := bd h (mp h2)
theorem r_me {m : Me} (h : ev F n σ st a = some (x, s1)) (h2 : evs F n σ s1 l = some (ds, s2)) (h3 : meP s2 m x ds = some d) : ev F (n + 1) σ st (.me m a l) = some (d, s2) := bd h (bd h2 (mp h3))
theorem r_repl {u v : Str} (h : ev F n σ st a = some (x, s1)) (h2 : replP x u v = some d) : ev F (n + 1) σ st (.repl a u v) = some (d, s1) := bd h (mp h2)
theorem r_sub (h : ev F n σ st a = some (x, s1)) (h2 : ev F n σ s1 b = some (y, s2)) (h3 : two dS dS (subP k) x y = some d) : ev F (n + 1) σ st (.sub k a b) = some (d, s2) := bd h (bd h2 (mp h3))
theorem r_call (h : evs F n σ st l = some (ds, s1)) (h2 : callF F n f ds s1 = some (d, s2)) : ev F (n + 1) σ st (.call f l) = some (d, s2) := bd h h2
theorem r_acc0 : ev F (n + 1) σ st .acc0 = some (.ref st.length, st ++ [.acc []]) := rfl
theorem ga (h : st[i]? = some (.acc ds)) : getAcc st (.ref i) = some (i, ds) := bd (o := st[i]?) h rfl
theorem gm (h : st[i]? = some (.ml ds)) : getMl st (.ref i) = some (i, ds) := bd (o := st[i]?) h rfl
theorem r_meth (h : ev F n σ st a = some (.ref i, s1)) (h1 : s1[i]? = some (.acc es)) (h2 : evs F n σ s1 l = some (ds, s2)) (h3 : callF F n f (.ref i :: ds) s2 = some (d, s3)) : ev F (n + 1) σ st (.meth f a l) = some (d, s3) := bd h (bd (ga h1) (bd h2 h3))
theorem r_app (h : ev F n σ st a = some (.ref i, s1)) (h1 : s1[i]? = some (.acc es)) (h2 : ev F n σ s1 b = some (y, s2)) (h3 : s2[i]? = some (.acc ds)) (h4 : ds.length ≤ lid) : ev F (n + 1) σ st (.accAppend a b) = some (.none, s2.set i (.acc (ds ++ [y]))) :=
  bd h (bd (ga h1) (bd h2 (bd (ga h3) (if_pos h4))))
theorem r_mlApp (h : ev F n σ st a = some (.ref i, s1)) (h1 : s1[i]? = some (.ml es)) (h2 : ev F n σ s1 b = some (y, s2)) (h3 : s2[i]? = some (.ml ds)) (h4 : ds.length ≤ lid) : ev F (n + 1) σ st (.mlAppend a b) = some (.none, s2.set i (.ml (ds ++ [y]))) :=
  bd h (bd (gm h1) (bd h2 (bd (gm h3) (if_pos h4))))
theorem r_pop (h : ev F n σ st a = some (.ref i, s1)) (h1 : s1[i]? = some (.acc (ds ++ [d]))) (h4 : (ds ++ [d]).length ≤ lid) : ev F (n + 1) σ st (.accPop a) = some (d, s1.set i (.acc ds)) := by
  refine bd h (bd (ga h1) ((if_pos h4).trans ?_))
  dsimp only
  rw [List.getLast?_concat, List.dropLast_concat]
theorem r_popFrom {u : Option PE} {v : Option D} (h : ev F n σ st a = some (.ref i, s1)) (h1 : s1[i]? = some (.acc es)) (h2 : evO F n σ s1 u = some (v, s2)) (h3 : s2[i]? = some (.acc ds)) (h4 : ds.length ≤ lid) (h5 : fromP ds v = some k) : ev F (n + 1) σ st (.popFrom a u) = some (.lst (ds.drop k), s2.set i (.acc (ds.take k))) :=
  bd h (bd (ga h1) (bd h2 (bd (ga h3) ((if_pos h4).trans (mp h5)))))
theorem r_str {t : Str} (h : ev F n σ st a = some (.ref i, s1)) (h1 : s1[i]? = some (.acc ds)) (h2 : hasTab s1 = true) (h3 : strAcc ds = some t) : ev F (n + 1) σ st (.accStr a) = some (.str t, s1) := bd h (bd (ga h1) ((if_pos h2).trans (mp h3)))
theorem tr_cmp1 (ha : ev F n σ st a = some (x, s1)) (hb : ev F n σ s1 b = some (y, s2)) (h : cmpP s2 o x y = some b₁) : evT F (n + 1) σ st (.cmp1 o a b) = some (b₁, s2) := bd ha (bd hb (mp h))
theorem tr_or (h : evOr F n σ st l = some (b₁, s1)) : evT F (n + 1) σ st (.bor l) = some (b₁, s1) := h
theorem tr_and (h : evAnd F n σ st l = some (b₁, s1)) : evT F (n + 1) σ st (.band l) = some (b₁, s1) := h
theorem o_go (h : evT F n σ st a = some (false, s1)) (h2 : evOr F n σ s1 l = some (b₁, s2)) : evOr F (n + 1) σ st (a :: l) = some (b₁, s2) := bd h h2
theorem o_stop (h : evT F n σ st a = some (true, s1)) : evOr F (n + 1) σ st (a :: l) = some (true, s1) := bd h rfl
theorem o_nil : evOr F (n + 1) σ st [] = some (false, st) := rfl
theorem a_go (h : evT F n σ st a = some (true, s1)) (h2 : evAnd F n σ s1 l = some (b₁, s2)) : evAnd F (n + 1) σ st (a :: l) = some (b₁, s2) := bd h h2
theorem a_stop (h : evT F n σ st a = some (false, s1)) : evAnd F (n + 1) σ st (a :: l) = some (false, s1) := bd h rfl
theorem a_nil : evAnd F (n + 1) σ st [] = some (true, st) := rfl
noncomputable def mapGo (E : Vars → Store → Option (D × Store)) (tg : Tg) (σ : Vars) : List D → Store → Option (List D × Store)
  | [], st => some ([], st)
  | d :: r, st => (bindT tg σ d).bind fun σ' => (E σ' st).bind fun y => (mapGo E tg σ r y.2).map fun z => (y.1 :: z.1, z.2)
theorem m_nil {E : Vars → Store → Option (D × Store)} {tg : Tg} : mapGo E tg σ [] st = some ([], st) := rfl
theorem m_cons {E : Vars → Store → Option (D × Store)} {tg : Tg} (h : bindT tg σ d = some σ₁) (h2 : E σ₁ st = some (y, s1)) (h3 : mapGo E tg σ ds s1 = some (es, s2)) : mapGo E tg σ (d :: ds) st = some (y :: es, s2) := bd h (bd h2 (mp h3))
theorem compGo_map {E : Vars → Store → Option (D × Store)} {tg : Tg} {ds : List D} : ∀ (r : List D) (m j : Nat) (st : Store) (acc : List D) {out : List D} {s' : Store}, ds.drop j = r → mapGo E tg σ r st = some (out, s') → r.length < m → compGo (fun _ st => some (true, st)) E (fun _ j => some ds[j]?) tg σ m j st acc = some (acc ++ out, s')
  | _, 0, _, _, _, _, _, _, _, h => absurd h (Nat.not_lt_zero _)
  | [], m + 1, j, st, acc, out, s', e, h, hm => by
    cases h
    refine bd rfl ?_
    rw [List.getElem?_eq_none (List.drop_eq_nil_iff.mp e), List.append_nil]
  | d :: r, m + 1, j, st, acc, out, s', e, h, hm => by
    refine nng fun nG => ?_
    obtain ⟨σ', h1, h⟩ := bd_ok h
    obtain ⟨⟨y, s1⟩, h2, h⟩ := bd_ok h
    obtain ⟨⟨es, s2⟩, h3, h⟩ := mp_ok h
    cases h
    refine nG ?_
    clear nG
    have e1 : ds[j]? = some d := (List.getElem?_drop (xs := ds) (i := j) (j := 0)).symm.trans (by rw [e]; rfl)
    have e2 : ds.drop (j + 1) = r := by rw [← List.drop_drop (i := 1) (j := j), e]; rfl
    refine bd rfl ?_
    rw [e1]
    refine bd h1 (bd rfl (bd h2 ?_))
    rw [compGo_map r m (j + 1) s1 (acc ++ [y]) e2 h3 (Nat.lt_of_succ_lt_succ hm), List.append_assoc]
    rfl
theorem r_comp {tg : Tg} (h : ev F n σ st a = some (x, s1)) (h1 : srcOf tg x = some fun _ j => some ds[j]?) (hl : ds.length < lid) (h2 : mapGo (fun σ st => ev F n σ st e) tg σ ds s1 = some (es, s2)) : ev F (n + 1) σ st (.comp e tg a none) = some (.lst es, s2) :=
  bd h (bd h1 (mp (compGo_map (ds := ds) ds lid 0 s1 [] rfl h2 hl)))
noncomputable def forL (B : Vars → Store → Option (Fl × Vars × Store)) (tg : Tg) : List D → Vars → Store → Option (Fl × Vars × Store)
  | [], σ, st => some (.next, σ, st)
  | d :: r, σ, st => (bindT tg σ d).bind fun σ' => (B σ' st).bind fun r' => match r'.1 with
    | .next => forL B tg r r'.2.1 r'.2.2
    | .brk => some (.next, r'.2.1, r'.2.2)
    | .ret v => some (.ret v, r'.2.1, r'.2.2)
theorem f_nil {B : Vars → Store → Option (Fl × Vars × Store)} {tg : Tg} : forL B tg [] σ st = some (.next, σ, st) := rfl
theorem f_cons {B : Vars → Store → Option (Fl × Vars × Store)} {tg : Tg} {r : Fl × Vars × Store} (h : bindT tg σ d = some σ₁) (h2 : B σ₁ st = some (.next, σ₂, s1)) (h3 : forL B tg ds σ₂ s1 = some r) : forL B tg (d :: ds) σ st = some r := bd h (bd h2 h3)
theorem f_brk {B : Vars → Store → Option (Fl × Vars × Store)} {tg : Tg} (h : bindT tg σ d = some σ₁) (h2 : B σ₁ st = some (.brk, σ₂, s1)) : forL B tg (d :: ds) σ st = some (.next, σ₂, s1) := bd h (bd h2 rfl)
theorem forGo_for {B : Vars → Store → Option (Fl × Vars × Store)} {tg : Tg} {ds : List D} : ∀ (r : List D) (m j : Nat) (σ : Vars) (st : Store), ds.drop j = r → r.length < m → forGo B (fun _ j => some ds[j]?) tg m j σ st = forL B tg r σ st
  | _, 0, _, _, _, _, h => absurd h (Nat.not_lt_zero _)
  | [], m + 1, j, σ, st, e, hm => by
    refine bd rfl ?_
    rw [List.getElem?_eq_none (List.drop_eq_nil_iff.mp e)]; rfl
  | d :: r, m + 1, j, σ, st, e, hm => by
    have e1 : ds[j]? = some d := (List.getElem?_drop (xs := ds) (i := j) (j := 0)).symm.trans (by rw [e]; rfl)
    have e2 : ds.drop (j + 1) = r := by rw [← List.drop_drop (i := 1) (j := j), e]; rfl
    refine bd rfl ?_
    rw [e1]
    show ((bindT tg σ d).bind _) = ((bindT tg σ d).bind _)
    congr 1; funext σ'
    congr 1; funext q
    cases q.1 with
    | next => exact forGo_for r m (j + 1) _ _ e2 (Nat.lt_of_succ_lt_succ hm)
    | brk => rfl
    | ret => rfl
theorem xr_for {tg : Tg} {B : List PS} {r : Fl × Vars × Store} (h : ev F n σ st a = some (x, s1)) (h1 : srcOf tg x = some fun _ j => some ds[j]?) (hl : ds.length ≤ lid) (h2 : forL (fun σ st => run F n σ st B) tg ds σ s1 = some r) : exec1 F (n + 1) σ st (.for1 tg a B) = some r :=
  bd h (bd h1 ((forGo_for ds (lid + 1) 0 σ s1 rfl (Nat.lt_succ_of_le hl)).trans h2))
theorem xr_asg (h : ev F n σ st a = some (x, s1)) : exec1 F (n + 1) σ st (.asg i a) = some (.next, σ.set i x, s1) := mp h
theorem xr_asgM (h : ev F n σ st a = some (.lst ds, s1)) : exec1 F (n + 1) σ st (.asgM i a) = some (.next, σ.set i (.ref s1.length), s1 ++ [.ml ds]) := bd h rfl
theorem xr_asgT {is : List Nat} (h : ev F n σ st a = some (.tup ds, s1)) (h2 : setAll is ds σ = some σ₁) : exec1 F (n + 1) σ st (.asgT is a) = some (.next, σ₁, s1) := bd h (bd rfl (mp h2))
theorem xr_ifT {p q : List PS} {r : Option (Fl × Vars × Store)} (h : evT F n σ st c = some (true, s1)) (h2 : run F n σ s1 p = r) : exec1 F (n + 1) σ st (.ifs c p q) = r := bd h h2
theorem xr_ifF {p q : List PS} {r : Option (Fl × Vars × Store)} (h : evT F n σ st c = some (false, s1)) (h2 : run F n σ s1 q = r) : exec1 F (n + 1) σ st (.ifs c p q) = r := bd h h2
theorem xr_ret (h : ev F n σ st a = some (x, s1)) : exec1 F (n + 1) σ st (.ret a) = some (.ret x, σ, s1) := mp h
theorem xr_ex (h : ev F n σ st a = some (.none, s1)) : exec1 F (n + 1) σ st (.ex a) = some (.next, σ, s1) := bd h (if_pos rfl)
theorem n_nil : run F (n + 1) σ st [] = some (.next, σ, st) := rfl
theorem n_go {p : PS} {r : List PS} {q : Fl × Vars × Store} (h : exec1 F n σ st p = some (.next, σ₁, s1)) (h2 : run F n σ₁ s1 r = some q) : run F (n + 1) σ st (p :: r) = some q := bd h h2
theorem n_ret {p : PS} {r : List PS} (h : exec1 F n σ st p = some (.ret d, σ₁, s1)) : run F (n + 1) σ st (p :: r) = some (.ret d, σ₁, s1) := bd h rfl
theorem n_brk {p : PS} {r : List PS} (h : exec1 F n σ st p = some (.brk, σ₁, s1)) : run F (n + 1) σ st (p :: r) = some (.brk, σ₁, s1) := bd h rfl
theorem c_closed {pf : PF} {d' : D} (h0 : F f = some pf) (h1 : setAll pf.params ds [] = some σ) (h2 : (D.refsLts 0 ds && !pf.opn) = true) (h3 : run F n σ [] pf.body = some (.ret d, σ₁, s1)) (h4 : frz s1 6 d = some d') : callF F (n + 1) f ds st = some (d', st) := by
  unfold callF
  rw [h0]
  refine bd h1 ?_
  rw [h2]
  exact bd h3 (mp h4)
theorem c_open {pf : PF} (h0 : F f = some pf) (h1 : setAll pf.params ds [] = some σ) (h2 : (D.refsLts 0 ds && !pf.opn) = false) (h3 : run F n σ st pf.body = some (.ret d, σ₁, s1)) : callF F (n + 1) f ds st = some (d, s1) := by
  unfold callF
  rw [h0]
  refine bd h1 ?_
  rw [h2]
  exact bd h3 rfl
theorem c_openN {pf : PF} (h0 : F f = some pf) (h1 : setAll pf.params ds [] = some σ) (h2 : (D.refsLts 0 ds && !pf.opn) = false) (h3 : run F n σ st pf.body = some (.next, σ₁, s1)) : callF F (n + 1) f ds st = some (.none, s1) := by
  unfold callF
  rw [h0]
  refine bd h1 ?_
  rw [h2]
  exact bd h3 rfl
end
end Mine.Internal
end
section
set_option Elab.async false
set_option linter.unusedVariables false
namespace Mine.Internal
noncomputable def Ch (N : Nat → Nat) : Nat → List Nat → Nat → Prop
  | a, [], b => a = b
  | a, k :: c, b => a = k + 1 ∧ Ch N (N k) c b
section
variable {N M : Nat → Nat}
theorem ch_app : ∀ {c d : List Nat} {a b : Nat}, Ch N a (c ++ d) b ↔ ∃ m, Ch N a c m ∧ Ch N m d b
  | [], d, a, b => ⟨fun h => ⟨a, rfl, h⟩, fun ⟨m, e, h⟩ => e ▸ h⟩
  | k :: c, d, a, b => ⟨fun ⟨e, h⟩ => let ⟨m, x, y⟩ := ch_app.mp h; ⟨m, ⟨e, x⟩, y⟩, fun ⟨m, ⟨e, x⟩, y⟩ => ⟨e, ch_app.mpr ⟨m, x, y⟩⟩⟩
theorem ch_congr : ∀ {c : List Nat} {a b : Nat}, (∀ k ∈ c, N k = M k) → Ch N a c b → Ch M a c b
  | [], _, _, _, h => h
  | k :: c, a, b, e, h => ⟨h.1, e k (.head _) ▸ ch_congr (fun j hj => e j (.tail _ hj)) h.2⟩
theorem ch_all {P : Nat → Prop} (hN : ∀ k, P k → ∀ j, N k = j + 1 → P j) : ∀ {c : List Nat} {a b : Nat}, Ch N a c b → (∀ j, a = j + 1 → P j) → (∀ k ∈ c, P k) ∧ ∀ j, b = j + 1 → P j
  | [], a, b, h, ha => ⟨fun k hk => (nomatch hk), fun j e => ha j ((show a = b from h).trans e)⟩
  | k :: c, a, b, h, ha =>
    have hk := ha k h.1
    have ih := ch_all hN h.2 (hN k hk)
    ⟨fun j hj => (List.mem_cons.mp hj).elim (fun e => e ▸ hk) (ih.1 j), ih.2⟩
theorem ch_pre : ∀ {c d : List Nat} {a x y : Nat}, Ch N a c x → Ch N a d y → (∃ e, d = c ++ e ∧ Ch N x e y) ∨ ∃ e, c = d ++ e ∧ Ch N y e x
  | [], d, a, x, y, h, k => .inl ⟨d, rfl, (show a = x from h) ▸ k⟩
  | i :: c, [], a, x, y, h, k => .inr ⟨i :: c, rfl, (show a = y from k) ▸ h⟩
  | i :: c, j :: d, a, x, y, h, k => by
    cases Nat.succ.inj (h.1.symm.trans k.1)
    rcases ch_pre h.2 k.2 with ⟨e, q, r⟩ | ⟨e, q, r⟩
    · exact .inl ⟨e, congrArg (i :: ·) q, r⟩
    · exact .inr ⟨e, congrArg (i :: ·) q, r⟩

structure Cyc (N : Nat → Nat) (c : List Nat) : Prop where
  nd : c.Nodup
  ch : ∃ k t, c = k :: t ∧ Ch N (k + 1) c (k + 1)
theorem Cyc.next {c : List Nat} (h : Cyc N c) {x : Nat} (hx : x ∈ c) : ∃ y, N x = y + 1 ∧ y ∈ c := by
  refine nng fun nG => ?_
  obtain ⟨k, t, e, hc⟩ := h.ch
  obtain ⟨c1, c2, e2⟩ := List.append_of_mem hx
  rw [e2] at hc
  obtain ⟨m, _, h2⟩ := ch_app.mp hc
  refine nG ?_
  clear nG
  cases c2 with
  | nil => exact ⟨k, h2.2, e ▸ .head _⟩
  | cons y r => exact ⟨y, h2.2.1, e2 ▸ List.mem_append_right _ (.tail _ (.head _))⟩
theorem Cyc.rot {c : List Nat} (h : Cyc N c) {x : Nat} (hx : x ∈ c) : ∃ d, d.Perm c ∧ Cyc N d ∧ ∃ t, d = x :: t := by
  refine nng fun nG => ?_
  obtain ⟨k, t, e, hc⟩ := h.ch
  obtain ⟨c1, c2, e2⟩ := List.append_of_mem hx
  have p : ((x :: c2) ++ c1).Perm c := e2 ▸ List.perm_append_comm
  rw [e2] at hc
  obtain ⟨m, h1, h2⟩ := ch_app.mp hc
  refine nG ?_
  clear nG
  cases (show m = x + 1 from h2.1)
  exact ⟨_, p, ⟨p.nodup_iff.mpr h.nd, x, c2 ++ c1, rfl, ch_app.mpr ⟨k + 1, h2, h1⟩⟩, c2 ++ c1, rfl⟩
theorem Cyc.sub {c d : List Nat} (h : Cyc N c) (k : Cyc N d) {x : Nat} (hx : x ∈ c) (hy : x ∈ d) : ∀ y ∈ c, y ∈ d := by
  obtain ⟨c', p, h', t, e⟩ := h.rot hx
  obtain ⟨j, t', e', hc⟩ := h'.ch
  cases e.symm.trans e'
  have := (ch_all (P := (· ∈ d)) (fun a ha b e => let ⟨y, q, r⟩ := k.next ha; by cases q.symm.trans e; exact r) hc (fun j q => Nat.succ.inj q ▸ hy)).1
  exact fun y hy => this y (p.mem_iff.mpr hy)
theorem Cyc.same {c d : List Nat} (h : Cyc N c) (k : Cyc N d) {x : Nat} (hx : x ∈ c) (hy : x ∈ d) : c.Perm d :=
  (List.perm_ext_iff_of_nodup h.nd k.nd).mpr fun y => ⟨h.sub k hx hy y, k.sub h hy hx y⟩
theorem Cyc.congr {c : List Nat} (e : ∀ k ∈ c, N k = M k) (h : Cyc N c) : Cyc M c :=
  let ⟨k, t, e1, hc⟩ := h.ch
  ⟨h.nd, k, t, e1, ch_congr e hc⟩

noncomputable def upd (g : Nat → Nat) (k : Nat) : Nat → Nat := fun j => if j = k then g j + 1 else g j
noncomputable def pop (g : Nat → Nat) (c : List Nat) : Nat → Nat := c.foldl upd g
theorem upd_comm (g : Nat → Nat) (i j : Nat) : upd (upd g i) j = upd (upd g j) i := by
  funext k
  unfold upd
  by_cases h : k = j
  · rw [if_pos h, if_pos h]
    by_cases h2 : k = i
    · rw [if_pos h2, if_pos h2]
    · rw [if_neg h2, if_neg h2]
  · rw [if_neg h, if_neg h]
theorem pop_perm {c d : List Nat} (p : c.Perm d) (g : Nat → Nat) : pop g c = pop g d := by
  unfold pop
  induction p generalizing g with
  | nil => rfl
  | cons x _ ih => exact ih _
  | swap x y l => exact congrArg (fun g => l.foldl upd g) (upd_comm g y x)
  | trans _ _ h1 h2 => exact (h1 g).trans (h2 g)
theorem pop_app (g : Nat → Nat) (c d : List Nat) : pop g (c ++ d) = pop (pop g c) d := List.foldl_append
theorem pop_out : ∀ {c : List Nat} (g : Nat → Nat) {k : Nat}, k ∉ c → pop g c k = g k
  | [], g, k, _ => rfl
  | i :: c, g, k, h => (pop_out (c := c) (upd g i) fun q => h (.tail _ q)).trans (if_neg fun (e : k = i) => h (e ▸ .head _))
theorem pop_in {c : List Nat} (g : Nat → Nat) {k : Nat} (nd : c.Nodup) (h : k ∈ c) : pop g c k = g k + 1 := by
  obtain ⟨c1, c2, rfl⟩ := List.append_of_mem h
  have n2 := (List.nodup_append.mp nd).2.2
  have n1 := (List.nodup_cons.mp (List.nodup_append.mp nd).2.1).1
  rw [pop_app]
  exact (pop_out (c := c2) _ n1).trans ((if_pos rfl).trans (congrArg (· + 1) (pop_out g fun q => n2 k q k (.head _) rfl)))

variable {K : Type} {L : Nat → Nat → Nat} {lb : (Nat → Nat) → List Nat → K} 
noncomputable abbrev nx (L : Nat → Nat → Nat) (g : Nat → Nat) (k : Nat) : Nat := L k (g k)
noncomputable def Pops (L : Nat → Nat → Nat) (lb : (Nat → Nat) → List Nat → K) : (Nat → Nat) → List K → (Nat → Nat) → Prop
  | g, [], h => g = h
  | g, r :: rs, h => ∃ c, Cyc (nx L g) c ∧ r = lb g c ∧ Pops L lb (pop g c) rs h
theorem pops_app : ∀ {rs ts : List K} {g h i : Nat → Nat}, Pops L lb g rs h → Pops L lb h ts i → Pops L lb g (rs ++ ts) i
  | [], _, _, _, _, e, k => (show _ = _ from e) ▸ k
  | _ :: _, _, _, _, _, ⟨c, a, b, d⟩, k => ⟨c, a, b, pops_app d k⟩
theorem pops_one {g : Nat → Nat} {c : List Nat} (h : Cyc (nx L g) c) : Pops L lb g [lb g c] (pop g c) := ⟨c, h, rfl, rfl⟩
theorem cyc_pop {g : Nat → Nat} {c d : List Nat} (h : Cyc (nx L g) c) (hd : ∀ k ∈ c, k ∉ d) : Cyc (nx L (pop g d)) c :=
  h.congr fun k hk => congrArg (L k) (pop_out g (hd k hk)).symm
noncomputable def Still (L : Nat → Nat → Nat) (g : Nat → Nat) : Prop := ∀ c, ¬ Cyc (nx L g) c
theorem pops_take (hp : ∀ g c d, c.Perm d → lb g c = lb g d) (hl : ∀ g h c, (∀ k ∈ c, g k = h k) → lb g c = lb h c) {h : Nat → Nat} (hs : Still L h) :
    ∀ {rs : List K} {g : Nat → Nat} {c : List Nat}, Pops L lb g rs h → Cyc (nx L g) c → ∃ ts, rs.Perm (lb g c :: ts) ∧ Pops L lb (pop g c) ts h
  | [], g, c, e, hc => absurd hc ((show g = h from e) ▸ hs c)
  | r :: rs, g, c, ⟨d, hd, e, k⟩, hc => by
    by_cases q : ∃ x, x ∈ c ∧ x ∈ d
    · obtain ⟨x, hx, hy⟩ := q
      have p := hc.same hd hx hy
      exact ⟨rs, by rw [e, hp g c d p], by rw [pop_perm p]; exact k⟩
    · have d1 : ∀ x ∈ c, x ∉ d := fun x hx hy => q ⟨x, hx, hy⟩
      have d2 : ∀ x ∈ d, x ∉ c := fun x hx hy => q ⟨x, hy, hx⟩
      obtain ⟨ts, p, t⟩ := pops_take hp hl hs k (cyc_pop hc d1)
      have e1 : lb (pop g d) c = lb g c := hl _ _ _ fun x hx => pop_out g (d1 x hx)
      have e2 : lb (pop g c) d = lb g d := hl _ _ _ fun x hx => pop_out g (d2 x hx)
      refine ⟨r :: ts, (p.cons r).trans (e1 ▸ List.Perm.swap _ _ _), d, cyc_pop hd d2, e.trans e2.symm, ?_⟩
      rw [← pop_app, pop_perm List.perm_append_comm, pop_app]
      exact t
theorem pops_same (hp : ∀ g c d, c.Perm d → lb g c = lb g d) (hl : ∀ g h c, (∀ k ∈ c, g k = h k) → lb g c = lb h c) {h h' : Nat → Nat} (hs : Still L h) (hs' : Still L h') :
    ∀ {rs ts : List K} {g : Nat → Nat}, Pops L lb g rs h → Pops L lb g ts h' → rs.Perm ts ∧ h = h'
  | [], [], g, e, k => ⟨.nil, (show g = h from e) ▸ (show g = h' from k)⟩
  | [], t :: ts, g, e, ⟨c, hc, _⟩ => absurd hc ((show g = h from e) ▸ hs c)
  | r :: rs, ts, g, ⟨c, hc, e, k⟩, k' =>
    let ⟨us, p, q⟩ := pops_take hp hl hs' k' hc
    let ⟨p2, e2⟩ := pops_same hp hl hs hs' k q
    ⟨by rw [e]; exact (p2.cons _).trans p.symm, e2⟩
end
end Mine.Internal
end
section
open PySem PySem.W PySem.Calls PyProof.Rows PySem.Builtin PySem.Builtin.Str PySem.StrLaws
set_option Elab.async false
set_option linter.unusedVariables false
namespace Mine.Internal
noncomputable abbrev S (w : List Nat) : Str := ⟨w.toArray⟩
theorem S_len (w : List Nat) : (S w).length = w.length := List.size_toArray
theorem S_app (a b : List Nat) : S a ++ S b = S (a ++ b) := by
  show Str.append _ _ = _
  unfold Str.append
  rw [List.append_toArray]
theorem S_tl (w : List Nat) : (S w).cps.toList = w := rfl
theorem sj0 : ∀ ws : List (List Nat), Str.join (S []) (ws.map S) = S ws.flatten
  | [] => rfl
  | [x] => by show S x = _; rw [List.flatten_cons, List.flatten_nil, List.append_nil]
  | x :: y :: r => by
    show S x ++ S [] ++ Str.join (S []) ((y :: r).map S) = _
    rw [sj0 (y :: r), S_app, S_app, List.append_nil]; rfl
theorem join0 (ws : List (List Nat)) : Txt.join (S []) (ws.map S) = S ws.flatten := (glued_eq_join _ _).trans (sj0 ws)
theorem sum_len (ws : List (List Nat)) : ((ws.map S).map (·.length)).sum = ws.flatten.length := by
  rw [List.length_flatten, List.map_map]
  exact congrArg List.sum (List.map_congr_left fun w _ => S_len w)
theorem jok {ws : List (List Nat)} (h : ws.flatten.length ≤ 4096) : JoinOk (S []) (ws.map S) = true := by
  have e := joinTotal (S []) (ws.map S)
  rw [sum_len] at e
  show (!decide (_ > _)) = true
  rw [e]
  have : ws.flatten.length + (ws.map S).length * (S []).length ≤ sizeLine := Nat.le_trans (show _ ≤ 4096 from h) (by decide)
  exact congrArg (!·) (decide_eq_false (Nat.not_lt.mpr this))
theorem has_one (w : List Nat) (c : Nat) : Txt.contains (S w) (S [c]) = decide (c ∈ w) := found_one (S w) c
theorem find_at {w1 w2 : List Nat} {c : Nat} (h : c ∉ w1) : Txt.find (S (w1 ++ c :: w2)) (S [c]) = (w1.length : Nat) := by
  have at_ : ∀ i, At (S (w1 ++ c :: w2)) (S [c]) (S (w1 ++ c :: w2)).length i ↔ (w1 ++ c :: w2)[i]? = some c := fun i => subAt_one _ c i
  have a0 : (w1 ++ c :: w2)[w1.length]? = some c := by rw [List.getElem?_append_right (Nat.le_refl _), Nat.sub_self]; rfl
  unfold Txt.find
  rcases occ_head (S (w1 ++ c :: w2)) (S [c]) 1 (Nat.le_refl _) with ⟨_, hn⟩ | ⟨i, r, e, hi, hn⟩
  · exact absurd ((at_ _).mpr a0) (hn _)
  · rw [e]
    have h1 : ¬ w1.length < i := fun q => hn _ q ((at_ _).mpr a0)
    have h2 : ¬ i < w1.length := fun q => h (by
      have := (at_ _).mp hi
      rw [List.getElem?_append_left q] at this
      exact List.mem_of_getElem? this)
    exact congrArg Nat.cast (Nat.le_antisymm (Nat.not_lt.mp h1) (Nat.not_lt.mp h2))
theorem not_32 (p : List Nat) (h : 32 ∉ p) : p.filter (· != 32) = p := List.filter_eq_self.mpr fun x hx => bne_iff_ne.mpr fun e => h (e ▸ hx)
theorem filt_join : ∀ ps : List Str, (∀ p ∈ ps, 32 ∉ p.cps.toList) → (Str.join (S [32]) ps).cps.toList.filter (· != 32) = (Str.join (S []) ps).cps.toList
  | [], _ => rfl
  | [p], h => not_32 _ (h p (.head _))
  | p :: q :: r, h => by
    show (p ++ S [32] ++ Str.join (S [32]) (q :: r)).cps.toList.filter _ = (p ++ S [] ++ Str.join (S []) (q :: r)).cps.toList
    rw [Str.cps_append, Str.cps_append, Str.cps_append, Str.cps_append, Array.toList_append, Array.toList_append, Array.toList_append, Array.toList_append, List.filter_append, List.filter_append, not_32 _ (h p (.head _)),
      filt_join (q :: r) fun x hx => h x (.tail _ hx)]
    rfl
theorem repl_blank (w : List Nat) : Txt.replace (S w) (S [32]) (S []) = S (w.filter (· != 32)) := by
  rw [replace_one]
  refine Str.ext' (Array.toList_inj.mp ?_)
  have e := filt_join _ (split_free (S w) 32)
  rw [join_split] at e
  exact e.symm
theorem sliceRange_nat (a b : Nat) (h : a ≤ b) : sliceRange (a : Int) (b : Int) 1 = List.range' a (b - a) := by
  unfold sliceRange
  simp only [show (1 : Int) > 0 by decide, if_true]
  have : (if (a : Int) < (b : Int) then ((b : Int) - a + 1 - 1) / 1 else 0).toNat = b - a := by
    split
    · rw [Int.ediv_one]; lia
    · simp; lia
  rw [this, List.range'_eq_map_range]
  refine List.map_congr_left fun x _ => ?_
  lia
theorem pick_pre (w : List Nat) : ∀ (m a : Nat), a + m ≤ w.length → (List.range' a m).filterMap (w.toArray[·]?) = (w.drop a).take m
  | 0, a, _ => by rw [List.take_zero]; rfl
  | m + 1, a, h => by
    have ha : a < w.length := by lia
    have e : w.toArray[a]? = some w[a] := by simp [ha]
    rw [List.range'_succ, List.filterMap_cons, e, pick_pre w m (a + 1) (by lia), List.drop_eq_getElem_cons ha]
    rfl
theorem slc_pre {w : List Nat} {k : Nat} (h : k < w.length) (hl : w.length ≤ 4096) : slcP (.str (S w)) none (some (.int k)) = some (.str (S (w.take k))) := by
  have e : (if (S w).length ≤ lid then (partI none).bind fun a => (partI (some (.int k))).bind fun b => some (D.str (Txt.slice (S w) a b)) else none) = some (.str (S (w.take k))) := by
    rw [if_pos (by rw [S_len]; exact Nat.le_trans hl (by decide))]
    show some (D.str (Txt.slice (S w) none (some (k : Int)))) = _
    unfold Txt.slice
    have e1 : strSliceIndices none (some (k : Int)) 1 (S w).length = List.range' 0 k := by
      unfold strSliceIndices
      rw [S_len]
      show sliceRange 0 (max 0 (min (if (k : Int) < 0 then (k : Int) + w.length else k) (w.length : Int))) 1 = _
      rw [if_neg (by lia), show max 0 (min (k : Int) (w.length : Int)) = k by lia]
      exact sliceRange_nat 0 k (Nat.zero_le _)
    rw [e1, S_len, if_neg (by simp; lia), pick_pre w k 0 (by lia), List.drop_zero]
  show orP _ _ = _
  rw [show ((dS (.str (S w))).bind fun x => if x.length ≤ lid then (partI none).bind fun a => (partI (some (.int k))).bind fun b => some (D.str (Txt.slice x a b)) else none) = _ from e]
  rfl
end Mine.Internal
end
section
open PySem PySem.W PySem.Calls PyProof.Rows PySem.Builtin PySem.Builtin.Str PySem.StrLaws
set_option Elab.async false
set_option linter.unusedVariables false
namespace Mine.Internal
noncomputable def row (d k : Nat) (b : Bool) : List Nat := match b with | true => List.replicate d 46 ++ [97 + k] | false => (97 + k) :: List.replicate d 46
noncomputable def endC : Nat → List Nat
  | 0 => [10]
  | 1 => [13]
  | _ => [13, 10]
noncomputable def enc : List Nat → List Nat
  | [] => []
  | c :: t => match Nat.beq c 46 with | true => 46 :: 46 :: t | false => c :: t
noncomputable abbrev sig : List Nat := [46, 97, 98, 99, 100, 101]
theorem sig_ne {c : Nat} (h : c ∈ sig) : c ≠ 13 := fun e => by
  subst e; exact absurd h (by decide)
theorem six {P : Nat → Prop} (h0 : P 46) (h1 : P 97) (h2 : P 98) (h3 : P 99) (h4 : P 100) (h5 : P 101) {c : Nat} (h : c ∈ sig) : P c := by
  rcases List.mem_cons.mp h with rfl | h
  · exact h0
  rcases List.mem_cons.mp h with rfl | h
  · exact h1
  rcases List.mem_cons.mp h with rfl | h
  · exact h2
  rcases List.mem_cons.mp h with rfl | h
  · exact h3
  rcases List.mem_cons.mp h with rfl | h
  · exact h4
  rw [List.mem_singleton.mp h]; exact h5
theorem crlf_sig {r t : List Nat} {c : Nat} (h : c ∈ sig) : crlf r (c :: t) = c :: crlf r t := six (P := fun c => crlf r (c :: t) = c :: crlf r t) rfl rfl rfl rfl rfl rfl h
theorem crlf_13 {r t : List Nat} {c : Nat} (h : c ∈ sig) : crlf r (13 :: c :: t) = r ++ crlf r (c :: t) := six (P := fun c => crlf r (13 :: c :: t) = r ++ crlf r (c :: t)) rfl rfl rfl rfl rfl rfl h
theorem dotq_sig {r t : List Nat} {c : Nat} (h : c ∈ sig) : dotq r false (c :: t) = c :: dotq r false t := six (P := fun c => dotq r false (c :: t) = c :: dotq r false t) rfl rfl rfl rfl rfl rfl h
theorem dotq_head {t : List Nat} {c : Nat} (h : c ∈ sig) : dotq [46, 46] true (c :: t) = (match Nat.beq c 46 with | true => [46, 46] | false => [c]) ++ dotq [46, 46] false t :=
  six (P := fun c => dotq [46, 46] true (c :: t) = (match Nat.beq c 46 with | true => [46, 46] | false => [c]) ++ dotq [46, 46] false t) rfl rfl rfl rfl rfl rfl h
theorem crlf_row {r t : List Nat} : ∀ {w : List Nat}, (∀ c ∈ w, c ∈ sig) → crlf r (w ++ t) = w ++ crlf r t
  | [], _ => rfl
  | c :: w, h => (crlf_sig (h c (.head _))).trans (congrArg (c :: ·) (crlf_row fun x hx => h x (.tail _ hx)))
theorem dotq_row {r t : List Nat} : ∀ {w : List Nat}, (∀ c ∈ w, c ∈ sig) → dotq r false (w ++ t) = w ++ dotq r false t
  | [], _ => rfl
  | c :: w, h => (dotq_sig (h c (.head _))).trans (congrArg (c :: ·) (dotq_row fun x hx => h x (.tail _ hx)))
noncomputable def mailIn (ls : List (List Nat × Nat)) : List Nat := ls.flatMap fun x => x.1 ++ endC x.2
noncomputable def mailOut (ws : List (List Nat)) : List Nat := ws.flatMap fun w => w ++ [13, 10]
theorem crlf_mail : ∀ {ls : List (List Nat × Nat)}, (∀ x ∈ ls, x.1 ≠ [] ∧ ∀ c ∈ x.1, c ∈ sig) → crlf [13, 10] (mailIn ls) = mailOut (ls.map (·.1))
  | [], _ => rfl
  | (w, e) :: ls, h => by
    have ih := crlf_mail fun x hx => h x (.tail _ hx)
    have hw := (h _ (.head _)).2
    show crlf [13, 10] (w ++ endC e ++ mailIn ls) = w ++ [13, 10] ++ mailOut (ls.map (·.1))
    rw [List.append_assoc, crlf_row hw, List.append_assoc, ← ih]
    refine congrArg (w ++ ·) ?_
    match e with
    | 0 => rfl
    | 1 =>
      cases ls with
      | nil => rfl
      | cons y ls =>
        obtain ⟨w', e'⟩ := y
        have h2 := h (w', e') (.tail _ (.head _))
        cases w' with
        | nil => exact absurd rfl h2.1
        | cons c w' => exact crlf_13 (h2.2 c (.head _))
    | _ + 2 => rfl
theorem dotq_mail : ∀ {ws : List (List Nat)}, (∀ w ∈ ws, w ≠ [] ∧ ∀ c ∈ w, c ∈ sig) → dotq [46, 46] true (mailOut ws) = mailOut (ws.map enc)
  | [], _ => rfl
  | w :: ws, h => by
    have ih := dotq_mail fun x hx => h x (.tail _ hx)
    have h1 := h w (.head _)
    cases w with
    | nil => exact absurd rfl h1.1
    | cons c w =>
      show dotq [46, 46] true (c :: (w ++ [13, 10] ++ mailOut ws)) = enc (c :: w) ++ [13, 10] ++ mailOut (ws.map enc)
      rw [dotq_head (h1.2 c (.head _)), List.append_assoc, dotq_row fun x hx => h1.2 x (.tail _ hx), ← ih]
      show _ ++ (w ++ 13 :: 10 :: dotq [46, 46] true (mailOut ws)) = (match Nat.beq c 46 with | true => 46 :: 46 :: w | false => c :: w) ++ [13, 10] ++ _
      cases Nat.beq c 46 <;> simp
theorem at_two (L : List Nat) (i : Nat) : At (S L) (S [13, 10]) (S L).length i ↔ (L.drop i).take 2 = [13, 10] := by
  unfold At
  rw [subAt_eq]
  refine ⟨fun h => eq_of_beq h.2, fun h => ⟨?_, beq_iff_eq.mpr h⟩⟩
  have e := congrArg List.length h
  rw [List.length_take, List.length_drop] at e
  show i + 2 ≤ (S L).length
  rw [S_len]
  have : ([13, 10] : List Nat).length = 2 := rfl
  lia
theorem parts_mail {L : List Nat} {f : Nat} (hn : ∀ k, f ≤ k → ¬ At (S L) (S [13, 10]) (S L).length k) : ∀ {ws : List (List Nat)} {a : Nat} {cuts : List Nat}, (∀ w ∈ ws, 13 ∉ w) → a ≤ L.length → L.drop a = mailOut ws → ChainG (S L) (S [13, 10]) (S L).length a cuts f →
    partsFrom (S L) 2 a cuts = ws.map S ++ [S []]
  | [], a, [], h, ha, e, hc => by
    refine congrArg (fun x => [x]) (Str.ext' (Array.toList_inj.mp ?_))
    rw [strSub_toList]
    show (L.drop a).take _ = []
    rw [e]; exact List.take_nil
  | [], a, c :: r, h, ha, e, hc => by
    have := (at_two L c).mp hc.2.1
    rw [show c = a + (c - a) by have := hc.1; lia, ← List.drop_drop, e] at this
    rw [show mailOut [] = [] from rfl, List.drop_nil] at this
    cases this
  | w :: ws, a, cuts, h, ha, e, hc => by
    have e0 : mailOut (w :: ws) = w ++ 13 :: 10 :: mailOut ws := List.append_assoc w [13, 10] (mailOut ws)
    rw [e0] at e
    have hd : ∀ j, L.drop (a + j) = (w ++ 13 :: 10 :: mailOut ws).drop j := fun j => by rw [← List.drop_drop, e]
    have hat : At (S L) (S [13, 10]) (S L).length (a + w.length) := (at_two L _).mpr (by rw [hd, List.drop_left]; rfl)
    have hno : ∀ j, j < w.length → ¬ At (S L) (S [13, 10]) (S L).length (a + j) := fun j hj q => by
      have := (at_two L _).mp q
      rw [hd, List.drop_append_of_le_length (Nat.le_of_lt hj), List.drop_eq_getElem_cons hj] at this
      exact h w (.head _) (by rw [← (List.cons.inj this).1]; exact List.getElem_mem hj)
    cases cuts with
    | nil => exact absurd hat (hn _ (by have : f = a := hc; lia))
    | cons c r =>
      obtain ⟨h1, h2, h3, h4⟩ := hc
      have hce : c = a + w.length := by
        have q1 : ¬ a + w.length < c := fun q => h3 _ (Nat.le_add_right _ _) q hat
        have q2 : ¬ c < a + w.length := fun q => hno (c - a) (by lia) (by rw [show a + (c - a) = c by lia]; exact h2)
        lia
      subst hce
      have hl : a + w.length + 2 ≤ L.length := by
        have := congrArg List.length e
        rw [List.length_drop, List.length_append] at this
        simp only [List.length_cons] at this
        lia
      have ih := parts_mail hn (ws := ws) (a := a + w.length + 2) (cuts := r) (fun x hx => h x (.tail _ hx)) hl (by rw [Nat.add_assoc, hd, ← List.drop_drop, List.drop_left]; rfl) h4
      show strSub (S L) a (a + w.length) :: partsFrom (S L) 2 (a + w.length + 2) r = _
      rw [ih]
      refine congrArg (· :: (ws.map S ++ [S []])) (Str.ext' (Array.toList_inj.mp ?_))
      rw [strSub_toList]
      show (L.drop a).take (a + w.length - a) = w
      rw [e, Nat.add_sub_cancel_left, List.take_left]
theorem split_mail {w : List Nat} {ws : List (List Nat)} (h : ∀ x ∈ w :: ws, 13 ∉ x) : Txt.split (S (mailOut (w :: ws))) (S [13, 10]) = (w :: ws).map S ++ [S []] := by
  obtain ⟨f, hG, hn⟩ := occ_tight (S (mailOut (w :: ws))) (S [13, 10]) (by decide)
  have e := parts_mail hn h (Nat.zero_le _) rfl hG
  have e2 := (partsBetween_eq (S (mailOut (w :: ws))) (occurrences (S (mailOut (w :: ws))) (S [13, 10]) 0 (S (mailOut (w :: ws))).length ((S (mailOut (w :: ws))).length + 1)) 2).trans e
  unfold Txt.split
  have hk : decide (PySem.Builtin.Str.strKind (S (mailOut (w :: ws))) < PySem.Builtin.Str.strKind (S [13, 10])) = false := by
    refine decide_eq_false ?_
    have h1 : PySem.Builtin.Str.strKind (S [13, 10]) = 1 := by decide +kernel
    have h2 : 1 ≤ PySem.Builtin.Str.strKind (S (mailOut (w :: ws))) := by
      unfold PySem.Builtin.Str.strKind
      split
      · decide
      · split <;> decide
    exact Nat.not_lt.mpr (h1 ▸ h2)
  have hl : decide ((S (mailOut (w :: ws))).length < (S [13, 10]).length) = false := by
    refine decide_eq_false ?_
    rw [S_len]
    show ¬ (w ++ [13, 10] ++ mailOut ws).length < 2
    rw [List.length_append, List.length_append]
    show ¬ (w.length + 2 + _ < 2)
    lia
  rw [hk, hl, if_neg (by decide)]
  split
  · rename_i q
    rw [List.isEmpty_iff.mp q] at e2
    exact absurd (congrArg List.length e2) (by rw [List.length_append, List.map_cons]; exact fun q => nomatch (show 1 = (ws.map S).length + 1 + 1 from q))
  · exact e2
end Mine.Internal
end
section
open PySem PySem.W PySem.Calls PyProof.Rows PySem.Builtin PySem.Builtin.Str PySem.StrLaws
set_option Elab.async false
set_option linter.unusedVariables false
set_option maxRecDepth 100000
namespace Mine.Internal
noncomputable abbrev abc : PE := .lit (.str ⟨#[97, 98, 99, 100, 101]⟩)
noncomputable abbrev dL5 (x : Nat → D) : D := .lst [x 0, x 1, x 2, x 3, x 4]
theorem five {P : Nat → Prop} (h0 : P 0) (h1 : P 1) (h2 : P 2) (h3 : P 3) (h4 : P 4) {k : Nat} (h : k < 5) : P k := by
  match k, h with
  | 0, _ => exact h0
  | 1, _ => exact h1
  | 2, _ => exact h2
  | 3, _ => exact h3
  | 4, _ => exact h4
theorem ix_abc {st : Store} {k : Nat} (h : k < 5) : idxP st (.str ⟨#[97, 98, 99, 100, 101]⟩) (.int k) = some (.str (S [97 + k])) := five (P := fun k => idxP st (.str ⟨#[97, 98, 99, 100, 101]⟩) (.int k) = some (.str (S [97 + k]))) rfl rfl rfl rfl rfl h
theorem ix_5 {st : Store} {x : Nat → D} {k : Nat} (h : k < 5) : idxP st (dL5 x) (.int k) = some (x k) := five (P := fun k => idxP st (dL5 x) (.int k) = some (x k)) rfl rfl rfl rfl rfl h
theorem mul_rep {x : Nat} {d : Nat} (h : d ≤ 5) : binP .Mult (.str ⟨#[x]⟩) (.int d) = some (.str (S (List.replicate d x))) := by
  match d, h with
  | 0, _ => rfl
  | 1, _ => rfl
  | 2, _ => rfl
  | 3, _ => rfl
  | 4, _ => rfl
  | 5, _ => rfl
theorem addS {a b : List Nat} (h : a.length + b.length ≤ lid) : binP .Add (.str (S a)) (.str (S b)) = some (.str (S (a ++ b))) := by
  have h' : (S a).length + (S b).length ≤ lid := by rw [S_len, S_len]; exact h
  rw [← S_app]
  show orP (if (S a).length + (S b).length ≤ lid then some (D.str (S a ++ S b)) else none) _ = _
  rw [if_pos h']; rfl
theorem in_str {st : Store} {c : Nat} {w : List Nat} : cmpP st .In (.str (S [c])) (.str (S w)) = some (decide (c ∈ w)) := congrArg some (has_one w c)
section
variable {F : Nat → Option PF} {n : Nat} {σ : Vars} {st : Store} {a b c : PE} {x : Nat → D}
theorem m_five {E : Vars → Store → Option (D × Store)} {v : Nat} (h : ∀ k : Nat, k < 5 → E (σ.set v (.int k)) st = some (x k, st)) : mapGo E (.one v) σ [.int 0, .int 1, .int 2, .int 3, .int 4] st = some ([x 0, x 1, x 2, x 3, x 4], st) :=
  m_cons rfl (h 0 (by decide)) (m_cons rfl (h 1 (by decide)) (m_cons rfl (h 2 (by decide)) (m_cons rfl (h 3 (by decide)) (m_cons rfl (h 4 (by decide)) m_nil))))
theorem r_rng5 : ev F (n + 3) σ st (.fn .range1 [.lit (.int 5)]) = some (.rng 0 5 1, st) := r_fn (rs_cons r_lit rs_nil) rfl
theorem r_comp5 {v : Nat} {e : PE} (h : ∀ k : Nat, k < 5 → ev F (n + 3) (σ.set v (.int k)) st e = some (x k, st)) : ev F (n + 4) σ st (.comp e (.one v) (.fn .range1 [.lit (.int 5)]) none) = some (dL5 x, st) :=
  r_comp r_rng5 rfl (by show 5 < 1048576; decide) (m_five h)
theorem strs_of : ∀ ws : List (List Nat), strsOf (ws.map fun w => .str (S w)) = some (ws.map S)
  | [] => rfl
  | w :: r => bd rfl (mp (strs_of r))
theorem join_ok {ws : List (List Nat)} (h : ws.flatten.length ≤ 4096) : meP st .join (.str (S [])) [.lst (ws.map fun w => .str (S w))] = some (.str (S ws.flatten)) := by
  rw [← join0]
  exact bd (o := strsOf _) (strs_of ws) (if_pos (jok h))
end
section
variable {d : Nat → Nat} {rg : List Nat}
noncomputable abbrev inR (rg : List Nat) (k : Nat) : Bool := decide (97 + k ∈ rg)
noncomputable abbrev rw_ (d : Nat → Nat) (rg : List Nat) (k : Nat) : List Nat := row (d k) k (inR rg k)
theorem sig_k {k : Nat} (h : k < 5) : 97 + k ∈ sig := five (P := fun k => 97 + k ∈ sig) (by decide) (by decide) (by decide) (by decide) (by decide) h
theorem row_len (d k : Nat) (b : Bool) : (row d k b).length = d + 1 := by
  cases b
  · show (List.replicate d 46).length + 1 = _; rw [List.length_replicate]
  · show (List.replicate d 46 ++ [97 + k]).length = _; rw [List.length_append, List.length_replicate]; rfl
theorem row_sig {d k : Nat} {b : Bool} (h : k < 5) : row d k b ≠ [] ∧ ∀ c ∈ row d k b, c ∈ sig := by
  refine ⟨fun e => ?_, fun c hc => ?_⟩
  · have := row_len d k b; rw [e] at this; exact nomatch this
  · have : c = 46 ∨ c = 97 + k := by
      cases b
      · exact (List.mem_cons.mp hc).elim .inr fun q => .inl (List.eq_of_mem_replicate q)
      · exact (List.mem_append.mp hc).elim (fun q => .inl (List.eq_of_mem_replicate q)) fun q => .inr (List.mem_singleton.mp q)
    exact this.elim (fun e => e ▸ .head _) fun e => e ▸ sig_k h
noncomputable abbrev elt1 : PE := .ite (.cmp1 .In (.idx abc (.var 3)) (.var 1)) (.bin .Add (.bin .Mult (.lit (.str ⟨#[46]⟩)) (.idx (.var 0) (.var 3))) (.idx abc (.var 3))) (.bin .Add (.idx abc (.var 3)) (.bin .Mult (.lit (.str ⟨#[46]⟩)) (.idx (.var 0) (.var 3))))
theorem elt1_ok {n k : Nat} {σ : Vars} {st : Store} (hk : k < 5) (hd : d k ≤ 5) (h0 : σ.get 0 = some (dL5 fun k => .int (d k))) (h1 : σ.get 1 = some (.str (S rg))) (h3 : σ.get 3 = some (.int k)) : ev F2 (n + 5) σ st elt1 = some (.str (S (rw_ d rg k)), st) := by
  have e1 : ∀ n, ev F2 (n + 3) σ st (.idx abc (.var 3)) = some (.str (S [97 + k]), st) := fun n => r_idx r_lit (r_var h3) (ix_abc hk)
  have e2 : ev F2 (n + 3) σ st (.bin .Mult (.lit (.str ⟨#[46]⟩)) (.idx (.var 0) (.var 3))) = some (.str (S (List.replicate (d k) 46)), st) := r_bin r_lit (r_idx (r_var h0) (r_var h3) (ix_5 (x := fun k => .int (d k)) hk)) (mul_rep hd)
  have ll : (List.replicate (d k) 46).length + [97 + k].length ≤ lid := by rw [List.length_replicate]; exact Nat.le_trans (Nat.succ_le_succ hd) (by decide)
  have ht : ∀ b, inR rg k = b → evT F2 (n + 4) σ st (.cmp1 .In (.idx abc (.var 3)) (.var 1)) = some (b, st) := fun b e => tr_cmp1 (e1 n) (r_var h1) (e ▸ in_str)
  unfold rw_
  cases hb : inR rg k with
  | true => exact r_iteT (ht _ hb) (r_bin e2 (e1 n) (addS ll))
  | false => exact r_iteF (ht _ hb) (r_bin (e1 n) e2 (addS (Nat.add_comm _ _ ▸ ll)))
theorem mod3 (m k : Nat) : binP .Mod (.int ((m : Int) + (k : Int))) (.int 3) = some (.int ((m + k) % 3 : Nat)) :=
  congrArg (fun x => some (D.int x)) (by rw [Int.fmod_eq_emod_of_nonneg _ (by decide)]; rfl)
theorem ix_end {st : Store} {j : Nat} (h : j < 3) : idxP st (.lst [.str ⟨#[10]⟩, .str ⟨#[13]⟩, .str ⟨#[13, 10]⟩]) (.int j) = some (.str (S (endC j))) := by
  match j, h with
  | 0, _ => rfl
  | 1, _ => rfl
  | 2, _ => rfl
theorem end_len (j : Nat) : (endC j).length ≤ 2 := by
  match j with
  | 0 => decide
  | 1 => decide
  | _ + 2 => exact Nat.le_refl 2
noncomputable abbrev wD (w : Nat → List Nat) (k : Nat) : D := .str (S (w k))
noncomputable abbrev elt2 : PE := .bin .Add (.idx (.var 4) (.var 5)) (.idx (.lst [.lit (.str ⟨#[10]⟩), .lit (.str ⟨#[13]⟩), .lit (.str ⟨#[13, 10]⟩)]) (.bin .Mod (.bin .Add (.var 2) (.var 5)) (.lit (.int 3))))
theorem elt2_ok {w : Nat → List Nat} {n k m : Nat} {σ : Vars} {st : Store} (hk : k < 5) (hw : (w k).length ≤ 8) (h2 : σ.get 2 = some (.int m)) (h4 : σ.get 4 = some (dL5 (wD w))) (h5 : σ.get 5 = some (.int k)) : ev F2 (n + 8) σ st elt2 = some (.str (S (w k ++ endC ((m + k) % 3))), st) :=
  r_bin (r_idx (r_var h4) (r_var h5) (ix_5 hk)) (r_idx (r_lst (rs_cons r_lit (rs_cons r_lit (rs_cons r_lit rs_nil)))) (r_bin (r_bin (r_var h2) (r_var h5) rfl) r_lit (mod3 m k)) (ix_end (Nat.mod_lt _ (by decide))))
    (addS (Nat.le_trans (Nat.add_le_add hw (end_len _)) (by decide)))
theorem ix_hd {st : Store} {c : Nat} {t : List Nat} : idxP st (.str (S (c :: t))) (.int 0) = some (.str (S [c])) := by
  have e : seqIndex? 0 (S (c :: t)).length = some 0 := by
    rw [S_len]
    show (if (decide ((0 : Int) ≤ 0) && decide ((0 : Int) < ((t.length + 1 : Nat) : Int))) = true then some (0 : Int).toNat else none) = some 0
    rw [decide_eq_true (show (0 : Int) < ((t.length + 1 : Nat) : Int) by lia)]; rfl
  show orP (Option.map _ ((seqIndex? 0 (S (c :: t)).length).bind _)) _ = _
  rw [e]; rfl
theorem eq_46 {st : Store} {c : Nat} (h : c ∈ sig) : cmpP st .Eq (.str (S [c])) (.str ⟨#[46]⟩) = some (Nat.beq c 46) :=
  six (P := fun c => cmpP st .Eq (.str (S [c])) (.str ⟨#[46]⟩) = some (Nat.beq c 46)) rfl rfl rfl rfl rfl rfl h
noncomputable abbrev elt3 : PE := .bin .Add (.bin .Add (.ite (.cmp1 .Eq (.idx (.var 7) (.lit (.int 0))) (.lit (.str ⟨#[46]⟩))) (.lit (.str ⟨#[46]⟩)) (.lit (.str ⟨#[]⟩))) (.var 7)) (.lit (.str ⟨#[13, 10]⟩))
theorem elt3_ok {w : List Nat} {n : Nat} {σ : Vars} {st : Store} (hw : w ≠ [] ∧ ∀ c ∈ w, c ∈ sig) (hl : w.length ≤ 8) (h7 : σ.get 7 = some (.str (S w))) : ev F2 (n + 8) σ st elt3 = some (.str (S (enc w ++ [13, 10])), st) := by
  cases w with
  | nil => exact absurd rfl hw.1
  | cons c t =>
    have ht : ∀ b, Nat.beq c 46 = b → evT F2 (n + 5) σ st (.cmp1 .Eq (.idx (.var 7) (.lit (.int 0))) (.lit (.str ⟨#[46]⟩))) = some (b, st) := fun b e => tr_cmp1 (r_idx (r_var h7) r_lit ix_hd) r_lit (e ▸ eq_46 (hw.2 c (.head _)))
    have l1 : ∀ j, j ≤ 4 → j + (c :: t).length ≤ lid := fun j hj => Nat.le_trans (Nat.add_le_add hj hl) (by decide)
    show _ = some (D.str (S ((match Nat.beq c 46 with | true => 46 :: 46 :: t | false => c :: t) ++ [13, 10])), st)
    cases hb : Nat.beq c 46 with
    | true =>
      have e := Nat.eq_of_beq_eq_true hb
      subst e
      exact r_bin (r_bin (r_iteT (ht _ hb) r_lit) (r_var h7) (addS (a := [46]) (l1 1 (by decide)))) r_lit (addS (b := [13, 10]) (by have := l1 3 (by decide); show (46 :: t).length + 1 + 2 ≤ lid; lia))
    | false => exact r_bin (r_bin (r_iteF (ht _ hb) r_lit) (r_var h7) (addS (a := []) (l1 0 (by decide)))) r_lit (addS (a := c :: t) (b := [13, 10]) (Nat.add_comm 2 _ ▸ l1 2 (by decide)))
theorem cnt_row : ∀ k < 5, ∀ d < 5, ∀ b : Bool, Txt.count (S (enc (row (d + 1) k b))) ⟨#[46]⟩ = ((d + 1 + (if b = true then 1 else 0) : Nat) : Int) := by decide +kernel
noncomputable abbrev fl5 (w : Nat → List Nat) : List (List Nat) := [w 0, w 1, w 2, w 3, w 4]
theorem join5 {st : Store} {w : Nat → List Nat} (h : (fl5 w).flatten.length ≤ 4096) : meP st .join (.str ⟨#[]⟩) [dL5 (wD w)] = some (.str (S (fl5 w).flatten)) := join_ok (ws := fl5 w) h
theorem len5 {w : Nat → List Nat} {b : Nat} (h : ∀ k, k < 5 → (w k).length ≤ b) : (fl5 w).flatten.length ≤ b * 5 := by
  have h0 := h 0 (by decide)
  have h1 := h 1 (by decide)
  have h2 := h 2 (by decide)
  have h3 := h 3 (by decide)
  have h4 := h 4 (by decide)
  show (w 0 ++ (w 1 ++ (w 2 ++ (w 3 ++ (w 4 ++ []))))).length ≤ _
  rw [List.length_append, List.length_append, List.length_append, List.length_append, List.length_append]
  show _ + (_ + (_ + (_ + (_ + 0)))) ≤ _
  lia
theorem quote_ok {n : Nat} {st : Store} {w : List Nat} (h1 : w.length ≤ 4096) (h2 : (crlf [13, 10] w).length ≤ 4096) : callF F2 (n + 6) 1 [.str (S w)] st = some (.str (S (dotq [46, 46] true (crlf [13, 10] w))), st) :=
  c_closed rfl rfl rfl (n_ret (xr_ret (r_sub r_lit (r_sub r_lit (r_var rfl) (if_pos ⟨by rw [S_len]; exact h1, by decide, by decide +kernel⟩)) (if_pos ⟨by show (S (crlf [13, 10] w)).length ≤ _; rw [S_len]; exact h2, by decide, by decide +kernel⟩)))) rfl
theorem ne_str {st : Store} {x : Str} : cmpP st .NotEq (.str x) (.str x) = some false := congrArg some (bne_self_eq_false x)
theorem sent_ok {n m : Nat} {st : Store} (hd : ∀ k, k < 5 → 1 ≤ d k ∧ d k ≤ 5) : callF F2 (n + 20) 6 [dL5 fun k => .int (d k), .str (S rg), .int m] st = some (dL5 fun k => .int ((d k + if inR rg k = true then 1 else 0 : Nat) : Int), st) := by
  have hs : ∀ k, k < 5 → rw_ d rg k ≠ [] ∧ ∀ c ∈ rw_ d rg k, c ∈ sig := fun k hk => row_sig hk
  have hl : ∀ k, k < 5 → (rw_ d rg k).length ≤ 6 := fun k hk => by rw [row_len]; exact Nat.succ_le_succ (hd k hk).2
  have el : ∀ k, k < 5 → (enc (rw_ d rg k) ++ [13, 10]).length ≤ 9 := fun k hk => by
    have := hl k hk
    generalize rw_ d rg k = w at this
    rw [List.length_append]
    cases w with
    | nil => decide
    | cons c t =>
      show (match Nat.beq c 46 with | true => 46 :: 46 :: t | false => c :: t).length + 2 ≤ 9
      cases Nat.beq c 46
      · exact Nat.le_trans (Nat.add_le_add_right this 2) (by decide)
      · exact Nat.add_le_add_right (Nat.succ_le_succ this) 2
  have all : ∀ {P : Nat → Prop}, (∀ k, k < 5 → P k) → P 0 ∧ P 1 ∧ P 2 ∧ P 3 ∧ P 4 := fun h => ⟨h 0 (by decide), h 1 (by decide), h 2 (by decide), h 3 (by decide), h 4 (by decide)⟩
  have hws : ∀ w ∈ fl5 (rw_ d rg), w ≠ [] ∧ ∀ c ∈ w, c ∈ sig := fun w hw => by
    obtain ⟨h0, h1, h2, h3, h4⟩ := all hs
    rcases List.mem_cons.mp hw with rfl | hw
    · exact h0
    rcases List.mem_cons.mp hw with rfl | hw
    · exact h1
    rcases List.mem_cons.mp hw with rfl | hw
    · exact h2
    rcases List.mem_cons.mp hw with rfl | hw
    · exact h3
    rw [List.mem_singleton.mp hw]; exact h4
  have e0 : mailIn ([0, 1, 2, 3, 4].map fun k => (rw_ d rg k, (m + k) % 3)) = (fl5 fun k => rw_ d rg k ++ endC ((m + k) % 3)).flatten := rfl
  have e1 : crlf [13, 10] (mailIn ([0, 1, 2, 3, 4].map fun k => (rw_ d rg k, (m + k) % 3))) = mailOut (fl5 (rw_ d rg)) := crlf_mail fun x hx => by
    obtain ⟨k, hk, rfl⟩ := List.mem_map.mp hx
    exact hs k ((by decide : ∀ k ∈ [0, 1, 2, 3, 4], k < 5) k hk)
  have e2 := dotq_mail hws
  have e3 : mailOut ((fl5 (rw_ d rg)).map enc) = (fl5 fun k => enc (rw_ d rg k) ++ [13, 10]).flatten := rfl
  have n13 : ∀ w ∈ (fl5 (rw_ d rg)).map enc, 13 ∉ w := fun w hw => by
    obtain ⟨x, hx, rfl⟩ := List.mem_map.mp hw
    have h := hws x hx
    cases x with
    | nil => exact fun q => nomatch q
    | cons c t =>
      intro q
      have : 13 = 46 ∨ 13 ∈ c :: t := by
        revert q
        show 13 ∈ (match Nat.beq c 46 with | true => 46 :: 46 :: t | false => c :: t) → _
        cases Nat.beq c 46
        · exact .inr
        · exact fun q => (List.mem_cons.mp q).imp id fun q => (List.mem_cons.mp q).elim (fun e => absurd e (by decide)) (List.mem_cons_of_mem _)
      exact this.elim (fun e => absurd e (by decide)) fun q => sig_ne (h.2 13 q) rfl
  have c1 : ((fl5 fun k => rw_ d rg k ++ endC ((m + k) % 3)).flatten).length ≤ 4096 := Nat.le_trans (len5 (b := 8) fun k hk => by rw [List.length_append]; exact Nat.add_le_add (hl k hk) (end_len _)) (by decide)
  have c2 : ((fl5 fun k => enc (rw_ d rg k) ++ [13, 10]).flatten).length ≤ 4096 := Nat.le_trans (len5 el) (by decide)
  have c3 : (crlf [13, 10] (fl5 fun k => rw_ d rg k ++ endC ((m + k) % 3)).flatten).length ≤ 4096 := by
    rw [← e0, e1]
    exact Nat.le_trans (len5 (w := fun k => rw_ d rg k ++ [13, 10]) (b := 8) fun k hk => by rw [List.length_append]; exact Nat.add_le_add_right (hl k hk) 2) (by decide)
  have q : callF F2 (n + 16) 1 [.str (S (fl5 fun k => rw_ d rg k ++ endC ((m + k) % 3)).flatten)] [] = some (.str (S (fl5 fun k => enc (rw_ d rg k) ++ [13, 10]).flatten), []) :=
    (quote_ok (n := n + 10) c1 c3).trans (congrArg (fun w => some (D.str (S w), ([] : Store))) ((congrArg (dotq [46, 46] true) e1).trans (e2.trans e3)))
  have sp : Txt.split (S (fl5 fun k => enc (rw_ d rg k) ++ [13, 10]).flatten) (S [13, 10]) = ((fl5 (rw_ d rg)).map enc).map S ++ [S []] := split_mail n13
  have hc : ∀ k, k < 5 → Txt.count (S (enc (rw_ d rg k))) ⟨#[46]⟩ = ((d k + if inR rg k = true then 1 else 0 : Nat) : Int) := fun k hk => by
    have := cnt_row k hk (d k - 1) (by have := (hd k hk).2; lia) (inR rg k)
    rwa [Nat.sub_add_cancel (hd k hk).1] at this
  have sl : (S (fl5 fun k => enc (rw_ d rg k) ++ [13, 10]).flatten).length + 2 ≤ lid := by rw [S_len]; exact Nat.le_trans (Nat.add_le_add_right c2 2) (by decide)
  have hsp : meP [] .split (.str (S (fl5 fun k => enc (rw_ d rg k) ++ [13, 10]).flatten)) [.str ⟨#[13, 10]⟩] = some (.lst [wD (fun k => enc (rw_ d rg k)) 0, wD (fun k => enc (rw_ d rg k)) 1, wD (fun k => enc (rw_ d rg k)) 2, wD (fun k => enc (rw_ d rg k)) 3, wD (fun k => enc (rw_ d rg k)) 4, .str (S [])]) :=
    Eq.trans (if_pos ⟨by decide, sl⟩) (congrArg (fun l : List Str => some (D.lst (l.map .str))) sp)
  refine c_closed (d := dL5 fun k => .int ((d k + if inR rg k = true then 1 else 0 : Nat) : Int)) (s1 := []) (σ₁ := [(0, dL5 fun k => .int (d k)), (1, .str (S rg)), (2, .int m), (4, dL5 (wD (rw_ d rg))), (6, .str (S (fl5 fun k => enc (rw_ d rg k) ++ [13, 10]).flatten))]) rfl rfl rfl ?_ rfl
  refine n_go (xr_asg (r_comp5 (x := wD (rw_ d rg)) fun k hk => elt1_ok hk (hd k hk).2 rfl rfl rfl)) ?_
  refine n_go (xr_asg (r_call (rs_cons (r_me r_lit (rs_cons (r_comp5 (x := wD fun k => rw_ d rg k ++ endC ((m + k) % 3)) fun k hk => elt2_ok hk (Nat.le_trans (hl k hk) (by decide)) rfl rfl rfl) rs_nil) (join5 c1)) rs_nil) q)) ?_
  refine n_go (s1 := ([] : Store)) (xr_ifF (tr_cmp1 (r_var rfl) (r_me r_lit (rs_cons (r_comp (s2 := ([] : Store)) (ds := [wD (rw_ d rg) 0, wD (rw_ d rg) 1, wD (rw_ d rg) 2, wD (rw_ d rg) 3, wD (rw_ d rg) 4]) (r_var rfl) rfl (by show 5 < 1048576; decide) (es := [wD (fun k => enc (rw_ d rg k) ++ [13, 10]) 0, wD (fun k => enc (rw_ d rg k) ++ [13, 10]) 1, wD (fun k => enc (rw_ d rg k) ++ [13, 10]) 2, wD (fun k => enc (rw_ d rg k) ++ [13, 10]) 3, wD (fun k => enc (rw_ d rg k) ++ [13, 10]) 4]) ?_) rs_nil) (join5 c2)) ne_str) n_nil) ?_
  · have h3 : ∀ k, k < 5 → ev F2 (n + 11) (Vars.set [(0, dL5 fun k => .int (d k)), (1, .str (S rg)), (2, .int m), (4, dL5 (wD (rw_ d rg))), (6, .str (S (fl5 fun k => enc (rw_ d rg k) ++ [13, 10]).flatten))] 7 (wD (rw_ d rg) k)) [] elt3 = some (wD (fun k => enc (rw_ d rg k) ++ [13, 10]) k, []) := fun k hk => elt3_ok (hs k hk) (Nat.le_trans (hl k hk) (by decide)) rfl
    refine nng fun nG => ?_
    obtain ⟨h0, h1, h2, h4, h5⟩ := all h3
    refine nG ?_
    clear nG
    exact m_cons rfl h0 (m_cons rfl h1 (m_cons rfl h2 (m_cons rfl h4 (m_cons rfl h5 m_nil))))
  · have h4 : ∀ k, k < 5 → ev F2 (n + 13) (Vars.set [(0, dL5 fun k => .int (d k)), (1, .str (S rg)), (2, .int m), (4, dL5 (wD (rw_ d rg))), (6, .str (S (fl5 fun k => enc (rw_ d rg k) ++ [13, 10]).flatten))] 8 (wD (fun k => enc (rw_ d rg k)) k)) [] (.me .count (.var 8) [.lit (.str ⟨#[46]⟩)]) = some (.int ((d k + if inR rg k = true then 1 else 0 : Nat) : Int), []) := fun k hk =>
      r_me (r_var rfl) (rs_cons r_lit rs_nil) (congrArg (fun i => some (D.int i)) (hc k hk))
    obtain ⟨h0, h1, h2, h3, h5⟩ := all h4
    refine n_ret (xr_ret (r_comp (s2 := ([] : Store)) (ds := [wD (fun k => enc (rw_ d rg k)) 0, wD (fun k => enc (rw_ d rg k)) 1, wD (fun k => enc (rw_ d rg k)) 2, wD (fun k => enc (rw_ d rg k)) 3, wD (fun k => enc (rw_ d rg k)) 4]) (r_slc (r_me (r_var rfl) (rs_cons r_lit rs_nil) hsp) ro_none (ro_some r_lit) rfl) rfl (by show 5 < 1048576; decide) ?_))
    exact m_cons rfl h0 (m_cons rfl h1 (m_cons rfl h2 (m_cons rfl h3 (m_cons rfl h5 m_nil))))
end
end Mine.Internal
end
section
open PySem PySem.W PySem.Calls PyProof.Rows PySem.Builtin PySem.Builtin.Str PySem.StrLaws
set_option Elab.async false
set_option linter.unusedVariables false
set_option maxRecDepth 100000
namespace Mine.Internal
noncomputable def aS (y : Nat) : Str := S [48 + y % 5, 48 + y / 5 % 5, 48 + y / 25]
noncomputable def ld (y : Nat) : Nat :=
  let r := y % 5; let g := y / 5 % 5; let b := y / 25
  if r > g ∧ g ≥ b then 0 else if g ≥ r ∧ r > b then 1 else if g > b ∧ b ≥ r then 2 else if b ≥ g ∧ g > r then 3 else if b > r ∧ r ≥ g then 4 else if r ≥ b ∧ b > g then 5 else 0
theorem ld_le : ∀ y < 125, ld y ≤ 5 := by decide +kernel
theorem ld_222 : ld 62 = 0 := by decide +kernel
noncomputable def isJ (r : Option (Fl × Vars × Store)) (i : Nat) : Bool := match r with
  | some (.ret (.int j), _, _) => j == (i : Int)
  | _ => false
theorem isJ_ok {r : Option (Fl × Vars × Store)} {i : Nat} (h : isJ r i = true) : ∃ σ s, r = some (.ret (.int i), σ, s) := by
  unfold isJ at h
  split at h
  · exact ⟨_, _, by rw [eq_of_beq h]⟩
  · exact Bool.noConfusion h
noncomputable def ldk (k y : Nat) : Bool := isJ (run F2 71 [(0, .str (aS (25 * k + y)))] [] pf3.body) (ld (25 * k + y))
theorem ldk0 : ∀ y < 25, ldk 0 y = true := by decide +kernel
theorem ldk1 : ∀ y < 25, ldk 1 y = true := by decide +kernel
theorem ldk2 : ∀ y < 25, ldk 2 y = true := by decide +kernel
theorem ldk3 : ∀ y < 25, ldk 3 y = true := by decide +kernel
theorem ldk4 : ∀ y < 25, ldk 4 y = true := by decide +kernel
theorem leads_t (y : Nat) (h : y < 125) : isJ (run F2 71 [(0, .str (aS y))] [] pf3.body) (ld y) = true := by
  have e : ∀ k, k < 5 → ∀ y < 25, ldk k y = true := fun k hk => match k, hk with
    | 0, _ => ldk0 | 1, _ => ldk1 | 2, _ => ldk2 | 3, _ => ldk3 | 4, _ => ldk4
  have e := e (y / 25) (by omega) (y % 25) (by omega)
  unfold ldk at e
  rwa [show 25 * (y / 25) + y % 25 = y by omega] at e
theorem six_t : ∀ y < 125, isJ (run F2 85 [(0, .str (S [48 + y % 5])), (1, .str (S [48 + y / 5 % 5])), (2, .str (S [48 + y / 25]))] [] pf4.body) (ld y) = true := by decide +kernel
theorem leads_ok {st : Store} {y : Nat} (h : y < 125) : callF F2 72 3 [.str (aS y)] st = some (.int (ld y), st) :=
  let ⟨_, _, e⟩ := isJ_ok (leads_t y h)
  c_closed rfl rfl rfl e rfl
theorem six_ok {st : Store} {y : Nat} (h : y < 125) : callF F2 86 4 [.str (S [48 + y % 5]), .str (S [48 + y / 5 % 5]), .str (S [48 + y / 25])] st = some (.int (ld y), st) :=
  let ⟨_, _, e⟩ := isJ_ok (six_t y h)
  c_closed rfl rfl rfl e rfl
end Mine.Internal
end
section
open PySem PySem.W PySem.Calls PyProof.Rows PySem.Builtin PySem.Builtin.Str PySem.StrLaws
set_option Elab.async false
set_option linter.unusedVariables false
set_option maxRecDepth 100000
namespace Mine.Internal
theorem modN {a : Nat} (b : Nat) (h : (b : Int) ≠ 0) : binP .Mod (.int a) (.int b) = some (.int (a % b : Nat)) := by
  show orP (if (b : Int) = 0 then none else some (D.int (Int.fmod a b))) _ = _
  rw [if_neg h, Int.fmod_eq_emod_of_nonneg _ (Int.natCast_nonneg b)]; rfl
theorem fdvN {a : Nat} (b : Nat) (h : ¬ ((b : Int) = 0 ∨ ¬ (b : Int).natAbs < 1073741824)) : binP .FloorDiv (.int a) (.int b) = some (.int (a / b : Nat)) := by
  show (if (b : Int) = 0 ∨ ¬ (b : Int).natAbs < 1073741824 then none else some (D.int (Int.fdiv a b))) = _
  rw [if_neg h, Int.fdiv_eq_ediv_of_nonneg _ (Int.natCast_nonneg b)]; rfl
theorem str5 {st : Store} {j : Nat} (h : j < 5) : fnP st .strI [.int j] = some (.str (S [48 + j])) := five (P := fun j => fnP st .strI [.int j] = some (.str (S [48 + j]))) rfl rfl rfl rfl rfl h
noncomputable def spare : Nat → Int
  | 0 => 1248945
  | 1 => 1715898
  | 2 => 730074
  | 3 => 1348803
  | _ => 208481
noncomputable def seed (ns : List Int) (k : Nat) : Nat := (Int.fmod (spare k + (ns[k]?).getD 0) 1000000000).toNat
noncomputable def arr (ns : List Int) (k : Nat) : Nat → Nat
  | 0 => seed ns k % 125
  | 1 => seed ns k / 125 % 125
  | 2 => seed ns k / 15625 % 125
  | _ => 62
theorem arr_lt (ns : List Int) (k j : Nat) : arr ns k j < 125 := by
  match j with
  | 0 => exact Nat.mod_lt _ (by decide)
  | 1 => exact Nat.mod_lt _ (by decide)
  | 2 => exact Nat.mod_lt _ (by decide)
  | _ + 3 => exact (by decide : 62 < 125)
noncomputable abbrev rowD (Y : Nat → Nat → Nat) (k : Nat) : D := .lst [.str (aS (Y k 0)), .str (aS (Y k 1)), .str (aS (Y k 2)), .str (aS (Y k 3))]
noncomputable abbrev scD (ns : List Int) : D := .lst (ns.map .int)
noncomputable abbrev spD : D := dL5 fun k => .int (spare k)
theorem ix_sc {st : Store} {ns : List Int} {k : Nat} (hk : k < 5) (h : k < ns.length) : idxP st (scD ns) (.int k) = some (.int ((ns[k]?).getD 0)) := by
  have e : (ns.map D.int)[k]? = some (.int ((ns[k]?).getD 0)) := by rw [List.getElem?_map, List.getElem?_eq_getElem h]; rfl
  exact five (P := fun k => (ns.map D.int)[k]? = some (.int ((ns[k]?).getD 0)) → idxP st (scD ns) (.int k) = some (.int ((ns[k]?).getD 0))) id id id id id hk e
theorem lt_b {st : Store} {a b : Int} : cmpP st .Lt (.int a) (.int b) = some (decide (a < b)) := rfl
theorem add_222 {a b c : D} : binP .Add (.lst [a, b, c]) (.lst [.str ⟨#[50, 50, 50]⟩]) = some (.lst [a, b, c, .str (aS 62)]) := by rfl
theorem refs_ints : ∀ ns : List Int, D.refsLts 0 (ns.map .int) = true
  | [] => rfl
  | _ :: r => refs_ints r
section
variable {n k : Nat} {σ : Vars} {st : Store} {ns : List Int}
noncomputable abbrev selE : PE := .ite (.cmp1 .Lt (.var 3) (.fn .len [.var 0])) (.idx (.var 0) (.var 3)) (.lit (.int 0))
theorem sel_ok (hk : k < 5) (hl : ns.length ≤ 63) (h0 : σ.get 0 = some (scD ns)) (h3 : σ.get 3 = some (.int k)) : ev F2 (n + 6) σ st selE = some (.int ((ns[k]?).getD 0), st) := by
  have len : ev F2 (n + 4) σ st (.fn .len [.var 0]) = some (.int (ns.length : Nat), st) := r_fn (rs_cons (r_var h0) rs_nil) (by
    show leP' (ns.map D.int).length _ = _
    rw [List.length_map]
    exact if_pos (Nat.le_trans hl (by decide)))
  by_cases h : k < ns.length
  · exact r_iteT (tr_cmp1 (r_var h3) len (congrArg some (decide_eq_true (Int.ofNat_lt.mpr h)))) (r_idx (r_var h0) (r_var h3) (ix_sc hk h))
  · have e : (ns[k]?).getD 0 = 0 := by rw [List.getElem?_eq_none (Nat.not_lt.mp h)]; rfl
    rw [e]
    exact r_iteF (tr_cmp1 (r_var h3) len (congrArg some (decide_eq_false fun q => h (Int.ofNat_lt.mp q)))) r_lit
noncomputable abbrev xE : PE := .bin .Mod (.bin .Add (.idx (.var 1) (.var 3)) selE) (.bin .Pow (.lit (.int 10)) (.lit (.int 9)))
theorem x_ok (hk : k < 5) (hl : ns.length ≤ 63) (h0 : σ.get 0 = some (scD ns)) (h1 : σ.get 1 = some spD) (h3 : σ.get 3 = some (.int k)) : ev F2 (n + 8) σ st xE = some (.int (seed ns k), st) := by
  refine r_bin (r_bin (r_idx (r_var h1) (r_var h3) (ix_5 (x := fun k => .int (spare k)) hk)) (sel_ok hk hl h0 h3) rfl) (r_bin r_lit r_lit rfl) ?_
  show some (D.int (Int.fmod (spare k + (ns[k]?).getD 0) 1000000000)) = _
  have : 0 ≤ Int.fmod (spare k + (ns[k]?).getD 0) 1000000000 := Int.fmod_nonneg_of_pos _ (by decide)
  rw [seed, Int.toNat_of_nonneg this]
noncomputable abbrev ptE : PE := .lst [.bin .Mod (.var 4) (.lit (.int 125)), .bin .Mod (.bin .FloorDiv (.var 4) (.lit (.int 125))) (.lit (.int 125)), .bin .Mod (.bin .FloorDiv (.var 4) (.lit (.int 15625))) (.lit (.int 125))]
theorem pt_ok (h4 : σ.get 4 = some (.int (seed ns k))) : ev F2 (n + 8) σ st ptE = some (.lst [.int (arr ns k 0), .int (arr ns k 1), .int (arr ns k 2)], st) :=
  r_lst (rs_cons (r_bin (r_var h4) r_lit (modN 125 (by decide))) (rs_cons (r_bin (r_bin (r_var h4) r_lit (fdvN 125 (by decide))) r_lit (modN 125 (by decide))) (rs_cons (r_bin (r_bin (r_var h4) r_lit (fdvN 15625 (by decide))) r_lit (modN 125 (by decide))) rs_nil)))
noncomputable abbrev sgE : PE := .bin .Add (.bin .Add (.fn .strI [.bin .Mod (.var 6) (.lit (.int 5))]) (.fn .strI [.bin .Mod (.bin .FloorDiv (.var 6) (.lit (.int 5))) (.lit (.int 5))])) (.fn .strI [.bin .FloorDiv (.var 6) (.lit (.int 25))])
theorem sg_ok {y : Nat} (hy : y < 125) (h6 : σ.get 6 = some (.int y)) : ev F2 (n + 8) σ st sgE = some (.str (aS y), st) :=
  r_bin (r_bin (r_fn (rs_cons (r_bin (r_var h6) r_lit (modN 5 (by decide))) rs_nil) (str5 (Nat.mod_lt _ (by decide)))) (r_fn (rs_cons (r_bin (r_bin (r_var h6) r_lit (fdvN 5 (by decide))) r_lit (modN 5 (by decide))) rs_nil) (str5 (Nat.mod_lt _ (by decide))))
    (addS (a := [_]) (b := [_]) (by decide : 1 + 1 ≤ lid))) (r_fn (rs_cons (r_bin (r_var h6) r_lit (fdvN 25 (by decide))) rs_nil) (str5 (Nat.div_lt_of_lt_mul hy))) (addS (a := [_, _]) (b := [_]) (by decide : 2 + 1 ≤ lid))
noncomputable abbrev rwE : PE := .bin .Add (.comp sgE (.one 6) (.var 5) none) (.lst [.lit (.str ⟨#[50, 50, 50]⟩)])
theorem rw_ok (h5 : σ.get 5 = some (.lst [.int (arr ns k 0), .int (arr ns k 1), .int (arr ns k 2)])) : ev F2 (n + 10) σ st rwE = some (rowD (arr ns) k, st) := by
  have g : ∀ j, ev F2 (n + 8) (σ.set 6 (.int (arr ns k j))) st sgE = some (.str (aS (arr ns k j)), st) := fun j => sg_ok (arr_lt ns k j) (by rw [Vars.get_set]; rfl)
  exact r_bin (r_comp (r_var h5) rfl (by show 3 < 1048576; decide) (m_cons rfl (g 0) (m_cons rfl (g 1) (m_cons rfl (g 2) m_nil)))) (r_lst (rs_cons r_lit rs_nil)) add_222
noncomputable abbrev arB : List PS := [.asg 4 xE, .asg 5 ptE, .ex (.mlAppend (.var 2) rwE)]
structure ArS (ns : List Int) (σ : Vars) : Prop where
  h0 : σ.get 0 = some (scD ns)
  h1 : σ.get 1 = some spD
  h2 : σ.get 2 = some (.ref 0)
theorem ArS.set {σ : Vars} (h : ArS ns σ) {i : Nat} {d : D} (hi : 3 ≤ i) : ArS ns (σ.set i d) :=
  have e : ∀ j, j < 3 → (σ.set i d).get j = σ.get j := fun j hj => (Vars.get_set σ i j d).trans (if_neg (by lia))
  ⟨(e 0 (by decide)).trans h.h0, (e 1 (by decide)).trans h.h1, (e 2 (by decide)).trans h.h2⟩
theorem ar_turn {l : List D} (hk : k < 5) (hl : ns.length ≤ 63) (hn : l.length ≤ 5) (h : ArS ns σ) : ∃ σ', ArS ns σ' ∧ run F2 (n + 20) (σ.set 3 (.int k)) [.ml l] arB = some (.next, σ', [.ml (l ++ [rowD (arr ns) k])]) := by
  have a3 := h.set (i := 3) (d := .int k) (by decide)
  have a4 := a3.set (i := 4) (d := .int (seed ns k)) (by decide)
  have a5 := a4.set (i := 5) (d := .lst [.int (arr ns k 0), .int (arr ns k 1), .int (arr ns k 2)]) (by decide)
  exact ⟨_, a5, n_go (xr_asg (x_ok hk hl a3.h0 a3.h1 (by rw [Vars.get_set]; rfl))) (n_go (xr_asg (pt_ok (by rw [Vars.get_set]; rfl))) (n_go (xr_ex (r_mlApp (r_var a5.h2) rfl (rw_ok (by rw [Vars.get_set]; rfl)) rfl (Nat.le_trans hn (by decide)))) n_nil))⟩
theorem arrows_ok (hl : ns.length ≤ 63) : callF F2 (n + 30) 2 [scD ns] st = some (dL5 (rowD (arr ns)), st) := by
  have h : ArS ns [(0, scD ns), (1, spD), (2, .ref 0)] := ⟨rfl, rfl, rfl⟩
  refine nng fun nG => ?_
  obtain ⟨σ0, g0, e0⟩ := ar_turn (n := n + 6) (k := 0) (l := []) (by decide) hl (by decide) h
  obtain ⟨σ1, g1, e1⟩ := ar_turn (n := n + 6) (k := 1) (l := [rowD (arr ns) 0]) (by decide) hl (by show 1 ≤ 5; decide) g0
  obtain ⟨σ2, g2, e2⟩ := ar_turn (n := n + 6) (k := 2) (l := [rowD (arr ns) 0, rowD (arr ns) 1]) (by decide) hl (by show 2 ≤ 5; decide) g1
  obtain ⟨σ3, g3, e3⟩ := ar_turn (n := n + 6) (k := 3) (l := [rowD (arr ns) 0, rowD (arr ns) 1, rowD (arr ns) 2]) (by decide) hl (by show 3 ≤ 5; decide) g2
  obtain ⟨σ4, g4, e4⟩ := ar_turn (n := n + 6) (k := 4) (l := [rowD (arr ns) 0, rowD (arr ns) 1, rowD (arr ns) 2, rowD (arr ns) 3]) (by decide) hl (by show 4 ≤ 5; decide) g3
  refine nG ?_
  clear nG
  refine c_closed (d := .ref 0) (σ₁ := σ4) (s1 := [.ml [rowD (arr ns) 0, rowD (arr ns) 1, rowD (arr ns) 2, rowD (arr ns) 3, rowD (arr ns) 4]]) rfl rfl (by show ((D.refsLts 0 (ns.map .int) && true) && true) = true; rw [refs_ints]; rfl) ?_ rfl
  refine n_go (xr_asg (r_lst (rs_cons r_lit (rs_cons r_lit (rs_cons r_lit (rs_cons r_lit (rs_cons r_lit rs_nil))))))) (n_go (xr_asgM (r_lst rs_nil)) (n_go (xr_for r_rng5 rfl (by decide : 5 ≤ 1048576) ?_) (n_ret (xr_ret (r_var g4.h2)))))
  exact f_cons rfl e0 (f_cons rfl e1 (f_cons rfl e2 (f_cons rfl e3 (f_cons rfl e4 f_nil))))
end
end Mine.Internal
end
section
open PySem PySem.W PySem.Calls PyProof.Rows PySem.Builtin PySem.Builtin.Str PySem.StrLaws
set_option Elab.async false
set_option linter.unusedVariables false
set_option maxRecDepth 100000
namespace Mine.Internal
structure Fi (n : Nat) (d : D) : Prop where
  pl : D.pl d = true
  can : (D.py d).canLay0 = true
  dep : (D.py d).depth ≤ n
  rf : D.refsLt 0 d = true
theorem fi_all {n : Nat} : ∀ {l : List D}, (∀ x ∈ l, Fi n x) → D.pls l = true ∧ PyData.canLayAll0 (D.pys l) = true ∧ PyData.depthAll (D.pys l) ≤ n ∧ D.refsLts 0 l = true
  | [], _ => ⟨rfl, rfl, Nat.zero_le _, rfl⟩
  | d :: r, h => by
    have h1 := h d (.head _)
    refine nng fun nG => ?_
    obtain ⟨a, b, c, e⟩ := fi_all fun x hx => h x (.tail _ hx)
    refine nG ?_
    clear nG
    refine ⟨?_, ?_, Nat.max_le.mpr ⟨h1.dep, c⟩, ?_⟩
    · show (D.pl d && D.pls r) = true
      rw [h1.pl, a]; rfl
    · show ((D.py d).canLay0 && PyData.canLayAll0 (D.pys r)) = true
      rw [h1.can, b]; rfl
    · show (D.refsLt 0 d && D.refsLts 0 r) = true
      rw [h1.rf, e]; rfl
theorem fi_lst {n : Nat} {l : List D} (h : ∀ x ∈ l, Fi n x) : Fi (n + 1) (.lst l) :=
  have ⟨a, b, c, e⟩ := fi_all h
  ⟨a, b, Nat.succ_le_succ c, e⟩
theorem fi_tup {n : Nat} {l : List D} (h : ∀ x ∈ l, Fi n x) : Fi (n + 1) (.tup l) :=
  have ⟨a, b, c, e⟩ := fi_all h
  ⟨a, b, Nat.succ_le_succ c, e⟩
theorem fi_int {n : Nat} (i : Int) : Fi n (.int i) := ⟨rfl, rfl, Nat.zero_le _, rfl⟩
theorem fi_str {n : Nat} {w : List Nat} (h : PyData.strOk (S w) = true) : Fi n (.str (S w)) := ⟨rfl, h, Nat.zero_le _, rfl⟩
theorem seq_of {n m : Nat} {d e : D} (h : Fi n d) (k : Fi m e) (hn : n ≤ 64) (hm : m ≤ 64) : seqEq d e = some (PyData.eqv (D.py d) (D.py e)) := by
  have a : eqOk d = true := by show (D.pl d && ((D.py d).canLay0 && decide _)) = true; rw [h.pl, h.can, decide_eq_true (Nat.le_trans h.dep hn)]; rfl
  have b : eqOk e = true := by show (D.pl e && ((D.py e).canLay0 && decide _)) = true; rw [k.pl, k.can, decide_eq_true (Nat.le_trans k.dep hm)]; rfl
  show (if (eqOk d && eqOk e) = true then _ else _) = _
  rw [a, b]; rfl
theorem seq_same {n : Nat} {d : D} (h : Fi n d) (hn : n ≤ 64) : seqEq d d = some true := (seq_of h h hn hn).trans (congrArg some (PySem.SeqAt.eqv_refl _ h.can))
noncomputable def pr (g : Nat → Nat) (k : Nat) : Pr := [List.replicate (g k) 32, [97 + k]]
noncomputable def lab (g : Nat → Nat) (c : List Nat) : Key := (sortK (c.map fun k => [pr g k])).flatten
theorem lab_perm (g : Nat → Nat) (c d : List Nat) (p : c.Perm d) : lab g c = lab g d := congrArg List.flatten (sortK_congr (p.map _))
theorem lab_loc (g h : Nat → Nat) (c : List Nat) (e : ∀ k ∈ c, g k = h k) : lab g c = lab h c :=
  congrArg (fun l => (sortK l).flatten) (List.map_congr_left fun k hk => by unfold pr; rw [e k hk])
theorem decA_flat : ∀ l : List Key, (∀ k ∈ l, ∃ x, k = [x]) → l.map decA = l.flatten.map decPair
  | [], _ => rfl
  | k :: r, h => by
    obtain ⟨x, rfl⟩ := h k (.head _)
    exact congrArg (decPair x :: ·) (decA_flat r fun y hy => h y (.tail _ hy))
noncomputable abbrev prD (g : Nat → Nat) (k : Nat) : D := .tup [.str (S (List.replicate (g k) 32)), .str (S [97 + k])]
theorem bl_ok : ∀ n < 6, PyData.strOk (S (List.replicate n 32)) = true := by decide +kernel
theorem ltr_ok : ∀ k < 5, PyData.strOk (S [97 + k]) = true := by decide +kernel
theorem pair_of {g : Nat → Nat} {k : Nat} (hk : k < 5) (hg : g k < 6) : pairOf (prD g k) = some (pr g k) := by
  refine if_pos ?_
  rw [bl_ok _ hg, ltr_ok _ hk]; rfl
theorem pairs_of {g : Nat → Nat} : ∀ {c : List Nat}, (∀ k ∈ c, k < 5 ∧ g k < 6) → pairsOfD (c.map (prD g)) = some (c.map (pr g))
  | [], _ => rfl
  | k :: c, h => bd (pair_of (h k (.head _)).1 (h k (.head _)).2) (mp (pairs_of fun x hx => h x (.tail _ hx)))
theorem sort_ring {st : Store} {g : Nat → Nat} {c : List Nat} (h : ∀ k ∈ c, k < 5 ∧ g k < 6) (hl : c.length < 64) : fnP st .sorted [.lst (c.map (prD g))] = some (decB (lab g c)) := by
  show (if (c.map (prD g)).length < 64 then _ else _) = _
  rw [List.length_map, if_pos hl]
  have e : keysA (c.map (prD g)) = some (c.map fun k => [pr g k]) := (mp (pairs_of h)).trans (congrArg some (List.map_map))
  show orP (Option.map _ (keysA (c.map (prD g)))) _ = _
  rw [e]
  refine congrArg (fun l => some (D.lst l)) (decA_flat _ fun k hk => ?_)
  obtain ⟨x, _, rfl⟩ := List.mem_map.mp ((sortK_perm _).mem_iff.mp hk)
  exact ⟨_, rfl⟩
noncomputable def Gk (r : Key) : Prop := r.length < 64 ∧ ∀ x ∈ r, ∃ i k, i < 6 ∧ k < 5 ∧ x = [List.replicate i 32, [97 + k]]
theorem flat_len : ∀ l : List Key, (∀ k ∈ l, ∃ x, k = [x]) → l.flatten.length = l.length
  | [], _ => rfl
  | k :: r, h => by
    obtain ⟨x, rfl⟩ := h k (.head _)
    exact congrArg Nat.succ (flat_len r fun y hy => h y (.tail _ hy))
theorem lab_gk {g : Nat → Nat} {c : List Nat} (h : ∀ k ∈ c, k < 5 ∧ g k < 6) (hl : c.length < 64) : Gk (lab g c) := by
  have m : ∀ k ∈ sortK (c.map fun k => [pr g k]), ∃ j ∈ c, k = [pr g j] := fun k hk => by
    obtain ⟨j, hj, rfl⟩ := List.mem_map.mp ((sortK_perm _).mem_iff.mp hk)
    exact ⟨j, hj, rfl⟩
  refine ⟨?_, fun x hx => ?_⟩
  · unfold lab
    rw [flat_len _ fun k hk => let ⟨j, _, e⟩ := m k hk; ⟨_, e⟩, (sortK_perm _).length_eq, List.length_map]
    exact hl
  · obtain ⟨k, hk, hx⟩ := List.mem_flatten.mp hx
    obtain ⟨j, hj, rfl⟩ := m k hk
    rw [List.mem_singleton.mp hx]
    exact ⟨_, _, (h j hj).2, (h j hj).1, rfl⟩
theorem pairs_gk : ∀ {r : Key}, (∀ x ∈ r, ∃ i k, i < 6 ∧ k < 5 ∧ x = [List.replicate i 32, [97 + k]]) → pairsOfD (r.map decPair) = some r
  | [], _ => rfl
  | x :: r, h => by
    obtain ⟨i, k, hi, hk, rfl⟩ := h x (.head _)
    exact bd (pair_of (g := fun _ => i) hk hi) (mp (pairs_gk fun y hy => h y (.tail _ hy)))
theorem keysB_gk : ∀ {rs : List Key}, (∀ r ∈ rs, Gk r) → keysB (rs.map decB) = some rs
  | [], _ => rfl
  | r :: rs, h => by
    have hr := h r (.head _)
    have hl : (r.map decPair).length ≤ lid := by rw [List.length_map]; exact Nat.le_trans (Nat.le_of_lt hr.1) (by decide)
    exact bd (o := rowOf (decB r)) (Eq.trans (if_pos hl) (pairs_gk hr.2)) (mp (keysB_gk fun y hy => h y (.tail _ hy)))
noncomputable abbrev rgD (rs : List Key) : D := .lst ((sortK rs).map decB)
theorem sort_rings {st : Store} {x : D} {rs : List Key} (ha : asList st x = some (rs.map decB)) (h : ∀ r ∈ rs, Gk r) (hl : rs.length < 64) : fnP st .sorted [x] = some (rgD rs) := by
  refine bd (o := asList st x) ha ?_
  refine Eq.trans (if_pos (by rw [List.length_map]; exact hl)) ?_
  cases rs with
  | nil => rfl
  | cons r rs =>
    rw [keysB_gk h]
    rfl
theorem fi_key {r : Key} (h : Gk r) : Fi 2 (decB r) := fi_lst fun x hx => by
  obtain ⟨y, hy, rfl⟩ := List.mem_map.mp hx
  obtain ⟨i, k, hi, hk, rfl⟩ := h.2 y hy
  refine fi_tup (n := 0) fun z hz => ?_
  rcases List.mem_cons.mp hz with rfl | hz
  · exact fi_str (bl_ok i hi)
  · rw [List.mem_singleton.mp hz]; exact fi_str (ltr_ok k hk)
theorem fi_rings {rs : List Key} (h : ∀ r ∈ rs, Gk r) : Fi 3 (rgD rs) := fi_lst fun x hx => by
  obtain ⟨r, hr, rfl⟩ := List.mem_map.mp hx
  exact fi_key (h r ((sortK_perm rs).mem_iff.mp hr))
end Mine.Internal
end
section
open PySem PySem.W PySem.Calls PyProof.Rows PySem.Builtin PySem.Builtin.Str PySem.StrLaws
set_option Elab.async false
set_option linter.unusedVariables false
set_option maxRecDepth 100000
namespace Mine.Internal
section
variable {F : Nat → Option PF} {n : Nat} {σ σ₁ σ₂ : Vars} {st s1 s2 : Store} {c : PE} {b : List PS} {r : Fl × Vars × Store}
theorem w_stop (h : evT F n σ st c = some (false, s1)) : whl F (n + 1) σ st c b = some (.next, σ, s1) := bd h rfl
theorem w_go (h : evT F n σ st c = some (true, s1)) (h2 : run F n σ s1 b = some (.next, σ₂, s2)) (h3 : whl F n σ₂ s2 c b = some r) : whl F (n + 1) σ st c b = some r := bd h (bd h2 h3)
theorem xr_whl (h : whl F n σ st c b = some r) : exec1 F (n + 1) σ st (.whl c b) = some r := h
end
noncomputable def cD : Nat → D
  | 0 => .int (-1)
  | j + 1 => .int j
theorem sub1 (a : Nat) : binP .Sub (.int a) (.int 1) = some (cD a) := by
  cases a with
  | zero => rfl
  | succ j => exact congrArg (fun i => some (D.int i)) (by show ((j + 1 : Nat) : Int) - 1 = j; lia)
section
variable {Y : Nat → Nat → Nat} {g : Nat → Nat} {n k : Nat} {σ : Vars} {st : Store}
noncomputable abbrev ldY (Y : Nat → Nat → Nat) (k j : Nat) : Nat := ld (Y k j)
noncomputable abbrev leD (Y : Nat → Nat → Nat) : D := dL5 fun k => .lst [cD (ldY Y k 0), cD (ldY Y k 1), cD (ldY Y k 2), cD (ldY Y k 3)]
noncomputable abbrev nL (x : Nat → Nat) : List D := [.int (x 0), .int (x 1), .int (x 2), .int (x 3), .int (x 4)]
noncomputable abbrev iL (c : List Nat) : List D := c.map fun k : Nat => .int k
theorem ix_r {i : Nat} {l : List D} {st : Store} (h : st[i]? = some (.ml l)) {j : Nat} (hj : j < 5) : idxP st (.ref i) (.int j) = l[j]? := by
  have e : asList st (.ref i) = some l := by
    show orP none ((getMl st (.ref i)).map (·.2)) = _
    rw [gm h]; rfl
  refine five (P := fun j => idxP st (.ref i) (.int j) = l[j]?) ?_ ?_ ?_ ?_ ?_ hj
  all_goals
    show (orP none (asList st (.ref i))).bind _ = _
    rw [e]; rfl
theorem nL_get {x : Nat → Nat} {k : Nat} (h : k < 5) : (nL x)[k]? = some (.int (x k)) := five (P := fun k => (nL x)[k]? = some (.int (x k))) rfl rfl rfl rfl rfl h
theorem ix_4 {st : Store} {x : Nat → Nat} {j : Nat} (h : j < 4) : idxP st (.lst [cD (x 0), cD (x 1), cD (x 2), cD (x 3)]) (.int j) = some (cD (x j)) := by
  match j, h with
  | 0, _ => rfl
  | 1, _ => rfl
  | 2, _ => rfl
  | 3, _ => rfl
noncomputable abbrev nxE (v : Nat) : PE := .idx (.idx (.var 3) (.var v)) (.idx (.var 4) (.var v))
theorem nx_ok {v : Nat} (h3 : σ.get 3 = some (leD Y)) (h4 : σ.get 4 = some (.ref 0)) (hv : σ.get v = some (.int k)) (hs : st[0]? = some (.ml (nL g))) (hk : k < 5) (hg : g k < 4) : ev F2 (n + 3) σ st (nxE v) = some (cD (nx (ldY Y) g k), st) :=
  r_idx (r_idx (r_var h3) (r_var hv) (ix_5 (x := fun k => .lst [cD (ldY Y k 0), cD (ldY Y k 1), cD (ldY Y k 2), cD (ldY Y k 3)]) hk)) (r_idx (r_var h4) (r_var hv) ((ix_r hs hk).trans (nL_get hk))) (ix_4 (x := ldY Y k) hg)
theorem ints_of : ∀ c : List Nat, intsOf (iL c) = some (c.map fun k : Nat => (k : Int))
  | [] => rfl
  | _ :: c => bd rfl (mp (ints_of c))
theorem any_int (c : List Nat) (j : Nat) : (c.map fun k : Nat => (k : Int)).any (· == (j : Int)) = decide (j ∈ c) := by
  rw [Bool.eq_iff_iff, List.any_eq_true, decide_eq_true_iff]
  exact ⟨fun ⟨x, hx, e⟩ => by
    obtain ⟨k, hk, rfl⟩ := List.mem_map.mp hx
    exact Int.ofNat.inj (eq_of_beq e) ▸ hk, fun h => ⟨_, List.mem_map.mpr ⟨j, h, rfl⟩, beq_self_eq_true _⟩⟩
theorem asl {i : Nat} {l : List D} (h : st[i]? = some (.ml l)) : asList st (.ref i) = some l := by
  show orP none ((getMl st (.ref i)).map (·.2)) = _
  rw [gm h]; rfl
theorem nin_ok {r j : Nat} {c : List Nat} (h : st[r]? = some (.ml (iL c))) : cmpP st .NotIn (.int j) (.ref r) = some (!decide (j ∈ c)) := by
  show (Option.bind _ _).map _ = _
  have e : inInt st (.int j) (.ref r) = some (decide (j ∈ c)) := (bd (o := asList st (.ref r)) (asl h) (mp (ints_of c))).trans (congrArg some (any_int c j))
  exact congrArg (Option.map (!·)) e
structure At (Y : Nat → Nat → Nat) (f : Nat) (σ : Vars) : Prop where
  h3 : σ.get 3 = some (leD Y)
  h4 : σ.get 4 = some (.ref 0)
  h5 : σ.get 5 = some (.ref 1)
  h6 : σ.get 6 = some (.ref f)
theorem gset {σ : Vars} {i j : Nat} {d : D} {x : Option D} (h : i ≠ j) (e : σ.get j = x) : (σ.set i d).get j = x := (Vars.get_set σ i j d).trans ((if_neg h).trans e)
theorem gnew {σ : Vars} {i : Nat} {d : D} : (σ.set i d).get i = some d := (Vars.get_set σ i i d).trans (if_pos rfl)
theorem At.set {f : Nat} {i : Nat} {d : D} (h : At Y f σ) (h7 : 7 ≤ i) : At Y f (σ.set i d) :=
  ⟨gset (by lia) h.h3, gset (by lia) h.h4, gset (by lia) h.h5, gset (by lia) h.h6⟩
noncomputable abbrev pathC : PE := .band [.cmp1 .GtE (.var 9) (.lit (.int 0)), .cmp1 .NotIn (.var 9) (.var 8)]
noncomputable abbrev pathB : List PS := [.ex (.mlAppend (.var 8) (.var 9)), .asg 9 (nxE 9)]
theorem path_ok {f r : Nat} (hr : 0 < r) (hL : ∀ k j, ldY Y k j ≤ 5) (hg : ∀ k, k < 5 → g k < 4) : ∀ (m : Nat) {c : List Nat} {a : Nat} {σ : Vars} {st : Store}, c.length + m = 6 → c.Nodup → (∀ x ∈ c, x < 5) → Ch (nx (ldY Y) g) (k + 1) c a → a ≤ 5 → At Y f σ → σ.get 7 = some (.int k) → σ.get 8 = some (.ref r) → σ.get 9 = some (cD a) → st[0]? = some (.ml (nL g)) → st[r]? = some (.ml (iL c)) →
    ∃ d a' σ', whl F2 (n + m + 8) σ st pathC pathB = some (.next, σ', st.set r (.ml (iL d))) ∧ d.Nodup ∧ (∀ x ∈ d, x < 5) ∧ Ch (nx (ldY Y) g) (k + 1) d a' ∧ (∀ j, a' = j + 1 → j ∈ d) ∧ (∃ e, d = c ++ e) ∧ At Y f σ' ∧ σ'.get 7 = some (.int k) ∧ σ'.get 8 = some (.ref r) ∧ σ'.get 9 = some (cD a')
  | 0, c, a, σ, st, hm, nd, h5, _, _, _, _, _, _, _, _ => by
    have : c.length ≤ 5 := nd.length_le_of_subset (l₂ := List.range 5) fun x hx => List.mem_range.mpr (h5 x hx)
    lia
  | m + 1, c, a, σ, st, hm, nd, h5, hc, ha, A, h7, h8, h9, s0, sr => by
    have stop : (∀ j, a = j + 1 → j ∈ c) → evT F2 (n + m + 8) σ st pathC = some (false, st) → _ := fun hj hT =>
      (⟨c, a, σ, by rw [set_self sr]; exact w_stop hT, nd, h5, hc, hj, ⟨[], (List.append_nil c).symm⟩, A, h7, h8, h9⟩ : ∃ d a' σ', whl F2 (n + (m + 1) + 8) σ st pathC pathB = some (.next, σ', st.set r (.ml (iL d))) ∧ d.Nodup ∧ (∀ x ∈ d, x < 5) ∧ Ch (nx (ldY Y) g) (k + 1) d a' ∧ (∀ j, a' = j + 1 → j ∈ d) ∧ (∃ e, d = c ++ e) ∧ At Y f σ' ∧ σ'.get 7 = some (.int k) ∧ σ'.get 8 = some (.ref r) ∧ σ'.get 9 = some (cD a'))
    cases a with
    | zero => exact stop (fun j e => nomatch e) (tr_and (a_stop (tr_cmp1 (r_var h9) r_lit rfl)))
    | succ j =>
      have t1 : evT F2 (n + m + 6) σ st (.cmp1 .GtE (.var 9) (.lit (.int 0))) = some (true, st) := tr_cmp1 (r_var h9) r_lit (congrArg some (decide_eq_true (Int.natCast_nonneg j)))
      have t2 : ∀ b, decide (j ∈ c) = b → evT F2 (n + m + 5) σ st (.cmp1 .NotIn (.var 9) (.var 8)) = some (!b, st) := fun b e => tr_cmp1 (r_var h9) (r_var h8) (e ▸ nin_ok sr)
      by_cases hj : j ∈ c
      · exact stop (fun i e => Nat.succ.inj e ▸ hj) (tr_and (a_go t1 (a_stop (t2 true (decide_eq_true hj)))))
      · have hj5 : j < 5 := ha
        have e1 : iL c ++ [.int j] = iL (c ++ [j]) := (List.map_append (f := fun k : Nat => D.int k) (l₁ := c) (l₂ := [j])).symm
        have s1 : (st.set r (.ml (iL (c ++ [j]))))[0]? = some (.ml (nL g)) := by rw [List.getElem?_set_ne (Nat.ne_of_gt hr)]; exact s0
        have s2 : (st.set r (.ml (iL (c ++ [j]))))[r]? = some (.ml (iL (c ++ [j]))) := List.getElem?_set_self (List.getElem?_eq_some_iff.mp sr).1
        have ll : (iL c).length ≤ lid := by rw [List.length_map]; exact Nat.le_trans (show c.length ≤ 6 by lia) (by decide)
        have run1 : run F2 (n + m + 8) σ st pathB = some (.next, σ.set 9 (cD (nx (ldY Y) g j)), st.set r (.ml (iL (c ++ [j])))) :=
          n_go (xr_ex (r_mlApp (r_var h8) sr (r_var h9) sr ll)) (e1 ▸ n_go (xr_asg (nx_ok A.h3 A.h4 h9 (e1 ▸ s1) hj5 (hg j hj5))) n_nil)
        refine nng fun nG => ?_
        obtain ⟨d, a', σ', w, q1, q2, q3, q4, ⟨e, q5⟩, q6⟩ := path_ok hr hL hg m (c := c ++ [j]) (a := nx (ldY Y) g j) (σ := σ.set 9 (cD (nx (ldY Y) g j))) (st := st.set r (.ml (iL (c ++ [j])))) (by rw [List.length_append]; show c.length + 1 + m = 6; lia)
          (List.nodup_append.mpr ⟨nd, List.nodup_cons.mpr ⟨fun q => (nomatch q), List.nodup_nil⟩, fun x hx y hy e => hj (by rw [List.mem_singleton.mp hy] at e; exact e ▸ hx)⟩)
          (fun x hx => (List.mem_append.mp hx).elim (h5 x) fun q => by rw [List.mem_singleton.mp q]; exact hj5) (ch_app.mpr ⟨j + 1, hc, rfl, rfl⟩) (hL _ _) (A.set (by decide)) (gset (by decide) h7) (gset (by decide) h8) gnew s1 s2
        refine nG ?_
        clear nG
        rw [List.set_set] at w
        exact ⟨d, a', σ', w_go (tr_and (a_go t1 (a_go (t2 false (decide_eq_false hj)) a_nil))) run1 w, q1, q2, q3, q4, ⟨j :: e, by rw [q5, List.append_assoc]; rfl⟩, q6⟩
end
end Mine.Internal
end
section
open PySem PySem.W PySem.Calls PyProof.Rows PySem.Builtin PySem.Builtin.Str PySem.StrLaws
set_option Elab.async false
set_option linter.unusedVariables false
set_option maxRecDepth 100000
namespace Mine.Internal
theorem path_cyc {N : Nat → Nat} {k a : Nat} {c d : List Nat} (hd : Ch N (k + 1) d a) (nd : d.Nodup) (ha : ∀ j, a = j + 1 → j ∈ d) (hc : Cyc N c) (hk : k ∈ c) : a = k + 1 := by
  obtain ⟨c', _, h', t, e⟩ := hc.rot hk
  obtain ⟨j, t', e', hc'⟩ := h'.ch
  cases e.symm.trans e'
  rcases ch_pre hc' hd with ⟨r, q, h⟩ | ⟨r, q, h⟩
  · cases r with
    | nil => exact h.symm
    | cons x r =>
      cases Nat.succ.inj h.1
      rw [q] at nd
      exact absurd rfl ((List.nodup_append.mp nd).2.2 k (e ▸ .head _) k (.head _))
  · cases r with
    | nil => exact h
    | cons x r =>
      have := h'.nd
      rw [q] at this
      exact absurd rfl ((List.nodup_append.mp this).2.2 x (ha x h.1) x (.head _))
section
variable {Y : Nat → Nat → Nat} {g : Nat → Nat} {n k f r : Nat} {σ : Vars} {st : Store}
theorem eq_cD {st : Store} {a k : Nat} : cmpP st .Eq (cD a) (.int k) = some (decide (a = k + 1)) := by
  cases a with
  | zero =>
    show some ((-1 : Int) == (k : Int)) = _
    rw [decide_eq_false (by lia), beq_eq_false_iff_ne.mpr (by lia)]
  | succ j =>
    show some ((j : Int) == (k : Int)) = _
    exact congrArg some (by rw [Bool.eq_iff_iff, beq_iff_eq, decide_eq_true_iff]; lia)
theorem min_ok {c : List Nat} (hs : st[r]? = some (.ml (iL c))) (hc : c ≠ []) : ∃ m : Nat, fnP st .minL [.ref r] = some (.int m) ∧ m ∈ c ∧ ∀ x ∈ c, m ≤ x := by
  cases e : (c.map fun k : Nat => (k : Int)).min? with
  | none =>
    cases c with
    | nil => exact absurd rfl hc
    | cons => rw [List.map_cons, List.min?_cons'] at e; cases e
  | some i =>
    refine nng fun nG => ?_
    obtain ⟨h1, h2⟩ := List.min?_eq_some_iff.mp e
    obtain ⟨m, hm, rfl⟩ := List.mem_map.mp h1
    refine nG ?_
    clear nG
    exact ⟨m, bd (o := asList st (.ref r)) (asl hs) (bd (ints_of c) (mp e)), hm, fun x hx => Int.ofNat_le.mp (h2 x (List.mem_map.mpr ⟨x, hx, rfl⟩))⟩
noncomputable abbrev inE : PE := .band [.cmp1 .Eq (.var 9) (.var 7), .cmp1 .Eq (.var 7) (.fn .minL [.var 8])]
noncomputable abbrev trB : List PS := [.asgM 8 (.lst [.var 7]), .asg 9 (nxE 7), .whl pathC pathB, .ifs inE [.ex (.mlAppend (.var 6) (.var 8))] []]
structure Ro (Y : Nat → Nat → Nat) (g : Nat → Nat) (f K : Nat) (R : List D) (ps : List (Nat × List Nat)) (st : Store) : Prop where
  s0 : st[0]? = some (.ml (nL g))
  s1 : st[1]? = some (.ml R)
  f1 : 1 < f
  sf : st[f]? = some (.ml (ps.map fun p => .ref p.1))
  pp : ∀ p ∈ ps, f < p.1 ∧ st[p.1]? = some (.ml (iL p.2)) ∧ Cyc (nx (ldY Y) g) p.2 ∧ (∀ x ∈ p.2, x < 5) ∧ ∃ j ∈ p.2, j < K ∧ ∀ x ∈ p.2, j ≤ x
  dj : ps.Pairwise fun p q => ∀ x ∈ p.2, x ∉ q.2
  al : ps = [] → ∀ c, Cyc (nx (ldY Y) g) c → ∀ j ∈ c, (∀ x ∈ c, j ≤ x) → K ≤ j
  ln : ps.length ≤ K
theorem turn_ok {K : Nat} {R : List D} {ps : List (Nat × List Nat)} (hK : K < 5) (hL : ∀ k j, ldY Y k j ≤ 5) (hg : ∀ k, k < 5 → g k < 4) (A : At Y f σ) (H : Ro Y g f K R ps st) :
    ∃ σ' ps' st', run F2 (n + 20) (σ.set 7 (.int K)) st trB = some (.next, σ', st') ∧ At Y f σ' ∧ Ro Y g f (K + 1) R ps' st' := by
  have h0 : 0 < st.length := (List.getElem?_eq_some_iff.mp H.s0).1
  have hf : f < st.length := (List.getElem?_eq_some_iff.mp H.sf).1
  have A7 := A.set (i := 7) (d := .int K) (by decide)
  have A8 := A7.set (i := 8) (d := .ref st.length) (by decide)
  have old : ∀ {i : Nat} {m : MO}, st[i]? = some m → (st ++ [.ml (iL [K])])[i]? = some m := fun {i m} e => (List.getElem?_append_left (List.getElem?_eq_some_iff.mp e).1).trans e
  have e7 : ((σ.set 7 (.int K)).set 8 (.ref st.length)).get 7 = some (.int K) := gset (by decide) gnew
  have sr : (st ++ [MO.ml (iL [K])])[st.length]? = some (.ml (iL [K])) := by rw [List.getElem?_append_right (Nat.le_refl _), Nat.sub_self]; rfl
  refine nng fun nG => ?_
  obtain ⟨d, a', σ', w, nd, d5, hc, ha, ⟨e, he⟩, A', h7, h8, h9⟩ := path_ok (Y := Y) (g := g) (n := n + 3) (k := K) (r := st.length) h0 hL hg 5 (c := [K]) (a := nx (ldY Y) g K) rfl (List.nodup_cons.mpr ⟨fun q => (nomatch q), List.nodup_nil⟩)
    (fun x hx => by rw [List.mem_singleton.mp hx]; exact hK) ⟨rfl, rfl⟩ (hL _ _) (A8.set (i := 9) (d := cD (nx (ldY Y) g K)) (by decide)) (gset (by decide) e7) (gset (by decide) gnew) gnew (old H.s0) sr
  have es : (st ++ [MO.ml (iL [K])]).set st.length (.ml (iL d)) = st ++ [.ml (iL d)] := by rw [List.set_append_right _ _ (Nat.le_refl _), Nat.sub_self]; rfl
  rw [es] at w
  have old2 : ∀ {i : Nat} {m : MO}, st[i]? = some m → (st ++ [.ml (iL d)])[i]? = some m := fun {i m} e => (List.getElem?_append_left (List.getElem?_eq_some_iff.mp e).1).trans e
  have sr2 : (st ++ [MO.ml (iL d)])[st.length]? = some (.ml (iL d)) := by rw [List.getElem?_append_right (Nat.le_refl _), Nat.sub_self]; rfl
  have hKd : K ∈ d := he ▸ .head _
  have go : ∀ {q}, exec1 F2 (n + 16) σ' (st ++ [.ml (iL d)]) (.ifs inE [.ex (.mlAppend (.var 6) (.var 8))] []) = some (.next, σ', q) → run F2 (n + 20) (σ.set 7 (.int K)) st trB = some (.next, σ', q) := fun {q} x =>
    n_go (xr_asgM (r_lst (rs_cons (r_var gnew) rs_nil))) (n_go (xr_asg (nx_ok A8.h3 A8.h4 e7 (old H.s0) hK (hg K hK))) (n_go (xr_whl w) (n_go x n_nil)))
  have t1 : ∀ b, decide (a' = K + 1) = b → evT F2 (n + 13) σ' (st ++ [.ml (iL d)]) (.cmp1 .Eq (.var 9) (.var 7)) = some (b, st ++ [.ml (iL d)]) := fun b e => tr_cmp1 (r_var h9) (r_var h7) (e ▸ eq_cD)
  obtain ⟨m, hm, m1, m2⟩ := min_ok sr2 (fun e => by rw [e] at hKd; cases hKd)
  refine nG ?_
  clear nG
  have t2 : ∀ b, decide (K = m) = b → evT F2 (n + 12) σ' (st ++ [.ml (iL d)]) (.cmp1 .Eq (.var 7) (.fn .minL [.var 8])) = some (b, st ++ [.ml (iL d)]) := fun b e =>
    tr_cmp1 (r_var h7) (r_fn (rs_cons (r_var h8) rs_nil) hm) (congrArg some (by rw [← e, Bool.eq_iff_iff, beq_iff_eq, decide_eq_true_iff]; exact Int.ofNat_inj))
  have no : (∀ c, Cyc (nx (ldY Y) g) c → K ∈ c → ∃ x ∈ c, x < K) → Ro Y g f (K + 1) R ps (st ++ [.ml (iL d)]) := fun hn =>
    ⟨old2 H.s0, old2 H.s1, H.f1, old2 H.sf, fun p hp => by
      refine nng fun nG => ?_
      obtain ⟨p1, p2, p3, p4, j, j1, j2, j3⟩ := H.pp p hp
      refine nG ?_
      clear nG
      exact ⟨p1, old2 p2, p3, p4, j, j1, Nat.lt_succ_of_lt j2, j3⟩, H.dj, fun e c hc j hj hx => by
      rcases Nat.lt_or_eq_of_le (H.al e c hc j hj hx) with q | q
      · exact q
      · obtain ⟨x, h1, h2⟩ := hn c hc (q ▸ hj)
        exact absurd (hx x h1) (by lia), Nat.le_succ_of_le H.ln⟩
  by_cases h1 : a' = K + 1
  · have hcy : Cyc (nx (ldY Y) g) d := ⟨nd, K, e, he, h1 ▸ hc⟩
    by_cases h2 : K = m
    · subst h2
      refine ⟨σ', ps ++ [(st.length, d)], (st ++ [MO.ml (iL d)]).set f (MO.ml (ps.map (fun p => D.ref p.1) ++ [D.ref st.length])), go (xr_ifT (tr_and (a_go (t1 _ (decide_eq_true h1)) (a_go (t2 _ (decide_eq_true rfl)) a_nil))) (n_go (xr_ex (r_mlApp (r_var A'.h6) (old2 H.sf) (r_var h8) (old2 H.sf) (by rw [List.length_map]; exact Nat.le_trans H.ln (Nat.le_trans (Nat.le_of_lt hK) (by decide))))) n_nil)), A', ?_⟩
      have o3 : ∀ {i : Nat} {m : MO}, i ≠ f → st[i]? = some m → ((st ++ [MO.ml (iL d)]).set f (MO.ml (ps.map (fun p => D.ref p.1) ++ [D.ref st.length])))[i]? = some m := fun {i m} hi e => by rw [List.getElem?_set_ne (Ne.symm hi)]; exact old2 e
      have hf1 := H.f1
      refine ⟨o3 (by lia) H.s0, o3 (by lia) H.s1, H.f1, ?_, fun p hp => ?_, List.pairwise_append.mpr ⟨H.dj, List.pairwise_cons.mpr ⟨fun _ q => (nomatch q), .nil⟩, fun p hp q hq => ?_⟩, fun e => absurd e (by simp), by rw [List.length_append]; exact Nat.succ_le_succ H.ln⟩
      · rw [List.getElem?_set_self (by rw [List.length_append]; lia), List.map_append]; rfl
      · rcases List.mem_append.mp hp with hp | hp
        · refine nng fun nG => ?_
          obtain ⟨p1, p2, p3, p4, j, j1, j2, j3⟩ := H.pp p hp
          refine nG ?_
          clear nG
          exact ⟨p1, o3 (by lia) p2, p3, p4, j, j1, Nat.lt_succ_of_lt j2, j3⟩
        · rw [List.mem_singleton.mp hp]
          exact ⟨hf, by rw [List.getElem?_set_ne (by show f ≠ st.length; lia)]; exact sr2, hcy, d5, K, hKd, Nat.lt_succ_self _, m2⟩
      · rw [List.mem_singleton.mp hq]
        refine nng fun nG => ?_
        obtain ⟨p1, p2, p3, p4, j, j1, j2, j3⟩ := H.pp p hp
        refine nG ?_
        clear nG
        exact fun x hx hy => absurd (m2 j ((p3.same hcy hx hy).mem_iff.mp j1)) (by lia)
    · refine ⟨σ', ps, _, go (xr_ifF (tr_and (a_go (t1 _ (decide_eq_true h1)) (a_stop (t2 _ (decide_eq_false h2))))) n_nil), A', no fun c hc hk => ⟨m, (hcy.same hc hKd hk).mem_iff.mp m1, ?_⟩⟩
      have := m2 K hKd
      lia
  · exact ⟨σ', ps, _, go (xr_ifF (tr_and (a_stop (t1 _ (decide_eq_false h1)))) n_nil), A', no fun c hc' hk => absurd (path_cyc hc nd ha hc' hk) h1⟩
end
end Mine.Internal
end
section
open PySem PySem.W PySem.Calls PyProof.Rows PySem.Builtin PySem.Builtin.Str PySem.StrLaws
set_option Elab.async false
set_option linter.unusedVariables false
set_option maxRecDepth 100000
namespace Mine.Internal
section
variable {B : Vars → Store → Option (Fl × Vars × Store)} {src : Store → Nat → Option (Option D)} {tg : Tg} {m j : Nat} {σ σ₁ σ₂ : Vars} {st s1 : Store} {d : D} {r : Fl × Vars × Store}
theorem g_end (h : src st j = some none) : forGo B src tg (m + 1) j σ st = some (.next, σ, st) := bd h rfl
theorem g_go (h : src st j = some (some d)) (h1 : bindT tg σ d = some σ₁) (h2 : B σ₁ st = some (.next, σ₂, s1)) (h3 : forGo B src tg m (j + 1) σ₂ s1 = some r) : forGo B src tg (m + 1) j σ st = some r := bd h (bd h1 (bd h2 h3))
end
noncomputable abbrev srcR (r : Nat) : Store → Nat → Option (Option D) := fun st j => (getMl st (.ref r)).map fun q => q.2[j]?
theorem src_r {st : Store} {r j : Nat} {l : List D} (h : st[r]? = some (.ml l)) : srcR r st j = some l[j]? := mp (gm h)
theorem comp_pure {E : Vars → Store → Option (D × Store)} {tg : Tg} {σ : Vars} {st : Store} {src : Store → Nat → Option (Option D)} {l : List D} {fD : D → D} (hs : ∀ j, src st j = some l[j]?) (hE : ∀ d ∈ l, ∃ σ', bindT tg σ d = some σ' ∧ E σ' st = some (fD d, st)) :
    ∀ (r : List D) (m j : Nat) (acc : List D), l.drop j = r → r.length < m → compGo (fun _ st => some (true, st)) E src tg σ m j st acc = some (acc ++ r.map fD, st)
  | _, 0, _, _, _, h => absurd h (Nat.not_lt_zero _)
  | [], m + 1, j, acc, e, _ => by
    refine bd (hs j) ?_
    rw [List.getElem?_eq_none (List.drop_eq_nil_iff.mp e)]
    show some (acc, st) = some (acc ++ [], st)
    rw [List.append_nil]
  | d :: r, m + 1, j, acc, e, hm => by
    have e1 : l[j]? = some d := (List.getElem?_drop (xs := l) (i := j) (j := 0)).symm.trans (by rw [e]; rfl)
    have e2 : l.drop (j + 1) = r := by rw [← List.drop_drop (i := 1) (j := j), e]; rfl
    obtain ⟨σ', h1, h2⟩ := hE d (List.mem_of_getElem? e1)
    refine bd (hs j) ?_
    rw [e1]
    refine bd h1 (bd rfl (bd h2 ?_))
    rw [comp_pure hs hE r m (j + 1) (acc ++ [fD d]) e2 (Nat.lt_of_succ_lt_succ hm), List.append_assoc]
    rfl
section
variable {Y : Nat → Nat → Nat} {g : Nat → Nat} {n k f r : Nat} {σ : Vars} {st : Store} {R : List Key}
theorem r_compR {F : Nat → Option PF} {a e : PE} {tg : Tg} {x : D} {src : Store → Nat → Option (Option D)} {l : List D} {fD : D → D} {s1 : Store} (h : ev F n σ st a = some (x, s1)) (h1 : srcOf tg x = some src) (hl : l.length < lid) (hs : ∀ j, src s1 j = some l[j]?)
    (hE : ∀ d ∈ l, ∃ σ', bindT tg σ d = some σ' ∧ ev F n σ' s1 e = some (fD d, s1)) : ev F (n + 1) σ st (.comp e tg a none) = some (.lst (l.map fD), s1) := bd h (bd h1 (mp (comp_pure hs hE l lid 0 [] rfl hl)))
noncomputable abbrev rgE : PE := .fn .sorted [.comp (.tup [.bin .Mult (.lit (.str ⟨#[32]⟩)) (.idx (.var 4) (.var 10)), .idx abc (.var 10)]) (.one 10) (.var 8) none]
theorem rg_ok {c : List Nat} (h4 : σ.get 4 = some (.ref 0)) (h8 : σ.get 8 = some (.ref r)) (s0 : st[0]? = some (.ml (nL g))) (sr : st[r]? = some (.ml (iL c))) (hc : ∀ x ∈ c, x < 5 ∧ g x < 6) (hl : c.length < 64) : ev F2 (n + 8) σ st rgE = some (decB (lab g c), st) := by
  refine r_fn (rs_cons (r_compR (fD := fun d => match d with | .int i => prD g i.toNat | _ => .none) (l := iL c) (src := srcR r) (r_var h8) rfl (by rw [List.length_map]; exact Nat.lt_trans hl (by decide)) (fun j => src_r sr) fun d hd => ?_) rs_nil) ?_
  · obtain ⟨x, hx, rfl⟩ := List.mem_map.mp hd
    obtain ⟨x5, g6⟩ := hc x hx
    exact ⟨_, rfl, r_tup (rs_cons (r_bin r_lit (r_idx (r_var (gset (by decide) h4)) (r_var gnew) ((ix_r s0 x5).trans (nL_get x5))) (mul_rep (Nat.le_of_lt_succ g6))) (rs_cons (r_idx r_lit (r_var gnew) (ix_abc x5)) rs_nil))⟩
  · rw [List.map_map]
    exact sort_ring hc hl
noncomputable abbrev incB : List PS := [.seti 4 (.var 7) (.bin .Add (.idx (.var 4) (.var 7)) (.lit (.int 1)))]
theorem nL_upd {g : Nat → Nat} {k : Nat} (h : k < 5) : (nL g).set k (.int ((g k : Int) + 1)) = nL (upd g k) := five (P := fun k => (nL g).set k (.int ((g k : Int) + 1)) = nL (upd g k)) rfl rfl rfl rfl rfl h
theorem inc_ok (h4 : σ.get 4 = some (.ref 0)) (h7 : σ.get 7 = some (.int k)) (s0 : st[0]? = some (.ml (nL g))) (hk : k < 5) : run F2 (n + 6) σ st incB = some (.next, σ, st.set 0 (.ml (nL (upd g k)))) := by
  refine n_go ?_ n_nil
  have e : ev F2 (n + 4) σ st (.bin .Add (.idx (.var 4) (.var 7)) (.lit (.int 1))) = some (.int ((g k : Int) + 1), st) := r_bin (r_idx (r_var h4) (r_var h7) ((ix_r s0 hk).trans (nL_get hk))) r_lit rfl
  rw [← nL_upd hk]
  refine bd e (bd (r_var h7) (bd h4 (bd (gm s0) (bd (o := dI _) rfl ?_))))
  exact if_pos ⟨Int.natCast_nonneg k, Nat.le_trans (Nat.le_of_lt hk) (by decide), hk⟩
theorem incs_ok {f r : Nat} {c : List Nat} (hr : 0 < r) (h5 : ∀ x ∈ c, x < 5) : ∀ (t : List Nat) (m j : Nat) (g : Nat → Nat) (σ : Vars) (st : Store), c.drop j = t → t.length < m → At Y f σ → st[0]? = some (.ml (nL g)) → st[r]? = some (.ml (iL c)) →
    ∃ σ', forGo (fun σ st => run F2 (n + 6) σ st incB) (srcR r) (.one 7) m j σ st = some (.next, σ', st.set 0 (.ml (nL (pop g t)))) ∧ At Y f σ'
  | _, 0, _, _, _, _, _, h, _, _, _ => absurd h (Nat.not_lt_zero _)
  | [], m + 1, j, g, σ, st, e, _, A, s0, sr => by
    refine ⟨σ, ?_, A⟩
    rw [show st.set 0 (.ml (nL (pop g []))) = st from set_self s0]
    refine g_end ((src_r sr).trans (congrArg some ?_))
    rw [List.getElem?_map, List.getElem?_eq_none (List.drop_eq_nil_iff.mp e)]; rfl
  | k :: t, m + 1, j, g, σ, st, e, hm, A, s0, sr => by
    have e1 : c[j]? = some k := (List.getElem?_drop (xs := c) (i := j) (j := 0)).symm.trans (by rw [e]; rfl)
    have e2 : c.drop (j + 1) = t := by rw [← List.drop_drop (i := 1) (j := j), e]; rfl
    have A7 := A.set (i := 7) (d := .int k) (by decide)
    have z : 0 < st.length := (List.getElem?_eq_some_iff.mp s0).1
    obtain ⟨σ', h, A'⟩ := incs_ok hr h5 t m (j + 1) (upd g k) _ (st.set 0 (.ml (nL (upd g k)))) e2 (Nat.lt_of_succ_lt_succ hm) A7 (List.getElem?_set_self z) (by rw [List.getElem?_set_ne (Nat.ne_of_lt hr)]; exact sr)
    rw [List.set_set] at h
    exact ⟨σ', g_go ((src_r sr).trans (congrArg some (by rw [List.getElem?_map, e1]; rfl))) rfl (inc_ok A7.h4 gnew s0 (h5 k (List.mem_of_getElem? e1))) h, A'⟩
end
end Mine.Internal
end
section
open PySem PySem.W PySem.Calls PyProof.Rows PySem.Builtin PySem.Builtin.Str PySem.StrLaws
set_option Elab.async false
set_option linter.unusedVariables false
set_option maxRecDepth 100000
namespace Mine.Internal
noncomputable def sum5 (g : Nat → Nat) : Nat := g 0 + g 1 + g 2 + g 3 + g 4
theorem sum_upd {g : Nat → Nat} {k : Nat} (h : k < 5) : sum5 (upd g k) = sum5 g + 1 := by
  match k, h with
  | 0, _ => show g 0 + 1 + g 1 + g 2 + g 3 + g 4 = g 0 + g 1 + g 2 + g 3 + g 4 + 1; lia
  | 1, _ => show g 0 + (g 1 + 1) + g 2 + g 3 + g 4 = g 0 + g 1 + g 2 + g 3 + g 4 + 1; lia
  | 2, _ => show g 0 + g 1 + (g 2 + 1) + g 3 + g 4 = g 0 + g 1 + g 2 + g 3 + g 4 + 1; lia
  | 3, _ => show g 0 + g 1 + g 2 + (g 3 + 1) + g 4 = g 0 + g 1 + g 2 + g 3 + g 4 + 1; lia
  | 4, _ => rfl
theorem sum_pop : ∀ {c : List Nat} {g : Nat → Nat}, (∀ k ∈ c, k < 5) → sum5 (pop g c) = sum5 g + c.length
  | [], _, _ => rfl
  | k :: c, g, h => (sum_pop (c := c) (g := upd g k) fun x hx => h x (.tail _ hx)).trans (by rw [sum_upd (h k (.head _))]; exact Nat.add_right_comm _ 1 _)
theorem sum_le {g : Nat → Nat} (h : ∀ k, k < 5 → g k < 4) : sum5 g ≤ 15 := by
  have h0 := h 0 (by decide)
  have h1 := h 1 (by decide)
  have h2 := h 2 (by decide)
  have h3 := h 3 (by decide)
  have h4 := h 4 (by decide)
  unfold sum5
  lia
theorem pop_lt {L : Nat → Nat → Nat} {g : Nat → Nat} {c : List Nat} (hz : ∀ k, L k 3 = 0) (hg : ∀ k, k < 5 → g k < 4) (hc : Cyc (nx L g) c) (k : Nat) (hk : k < 5) : pop g c k < 4 := by
  by_cases h : k ∈ c
  · rw [pop_in g hc.nd h]
    obtain ⟨y, e, _⟩ := hc.next h
    have : g k ≠ 3 := fun q => by
      have e : L k (g k) = y + 1 := e
      rw [q, hz] at e; cases e
    have := hg k hk
    lia
  · rw [pop_out g h]; exact hg k hk
section
variable {Y : Nat → Nat → Nat} {n f : Nat}
noncomputable abbrev poB : List PS := [.ex (.mlAppend (.var 5) rgE), .for1 (.one 7) (.var 8) incB]
structure Ys (Y : Nat → Nat → Nat) : Prop where
  le : ∀ k j, ldY Y k j ≤ 5
  z : ∀ k, ldY Y k 3 = 0
structure Of (Y : Nat → Nat → Nat) (g : Nat → Nat) (R : List Key) (st : Store) : Prop where
  s0 : st[0]? = some (.ml (nL g))
  s1 : st[1]? = some (.ml (R.map decB))
  lt : ∀ k, k < 5 → g k < 4
  gk : ∀ r ∈ R, Gk r
  ln : R.length ≤ sum5 g
theorem pops_ok (hY : Ys Y) {ps : List (Nat × List Nat)} (f1 : 1 < f) : ∀ (t : List (Nat × List Nat)) (m j : Nat) (g : Nat → Nat) (R : List Key) (σ : Vars) (st : Store), ps.drop j = t → t.length < m → At Y f σ → Of Y g R st → st[f]? = some (.ml (ps.map fun p => .ref p.1)) →
    (∀ p ∈ t, f < p.1 ∧ st[p.1]? = some (.ml (iL p.2)) ∧ Cyc (nx (ldY Y) g) p.2 ∧ (∀ x ∈ p.2, x < 5)) → t.Pairwise (fun p q => ∀ x ∈ p.2, x ∉ q.2) →
    ∃ σ' st' g' ks, forGo (fun σ st => run F2 (n + 15) σ st poB) (srcR f) (.one 8) m j σ st = some (.next, σ', st') ∧ At Y f σ' ∧ Of Y g' (R ++ ks) st' ∧ Pops (ldY Y) lab g ks g' ∧ (∀ i, 1 < i → st'[i]? = st[i]?) ∧ sum5 g + t.length ≤ sum5 g' ∧ (t = [] → g' = g)
  | _, 0, _, _, _, _, _, _, h, _, _, _, _, _ => absurd h (Nat.not_lt_zero _)
  | [], m + 1, j, g, R, σ, st, e, _, A, H, sf, _, _ => by
    refine ⟨σ, st, g, [], g_end ((src_r sf).trans (congrArg some ?_)), A, by rw [List.append_nil]; exact H, rfl, fun _ _ => rfl, Nat.le_refl _, fun _ => rfl⟩
    rw [List.getElem?_map, List.getElem?_eq_none (List.drop_eq_nil_iff.mp e)]; rfl
  | p :: t, m + 1, j, g, R, σ, st, e, hm, A, H, sf, hp, dj => by
    have e1 : ps[j]? = some p := (List.getElem?_drop (xs := ps) (i := j) (j := 0)).symm.trans (by rw [e]; rfl)
    have e2 : ps.drop (j + 1) = t := by rw [← List.drop_drop (i := 1) (j := j), e]; rfl
    refine nng fun nG => ?_
    obtain ⟨p1, p2, p3, p5⟩ := hp p (.head _)
    obtain ⟨dj1, dj2⟩ := List.pairwise_cons.mp dj
    have A8 := A.set (i := 8) (d := .ref p.1) (by decide)
    have hc5 : ∀ x ∈ p.2, x < 5 ∧ g x < 6 := fun x hx => ⟨p5 x hx, Nat.lt_of_lt_of_le (H.lt x (p5 x hx)) (by decide)⟩
    have hl5 : p.2.length ≤ 5 := p3.nd.length_le_of_subset (l₂ := List.range 5) fun x hx => List.mem_range.mpr (p5 x hx)
    have hne : 0 < p.2.length := by
      obtain ⟨k, u, e, _⟩ := p3.ch
      rw [e]; exact Nat.succ_pos _
    have l1 : 1 < st.length := (List.getElem?_eq_some_iff.mp H.s1).1
    have hRl : (R.map decB).length ≤ lid := by rw [List.length_map]; exact Nat.le_trans (Nat.le_trans H.ln (sum_le H.lt)) (by decide)
    have q0 : (st.set 1 (.ml (R.map decB ++ [decB (lab g p.2)])))[0]? = some (.ml (nL g)) := by rw [List.getElem?_set_ne (by decide)]; exact H.s0
    have qp : (st.set 1 (.ml (R.map decB ++ [decB (lab g p.2)])))[p.1]? = some (.ml (iL p.2)) := by rw [List.getElem?_set_ne (by lia)]; exact p2
    obtain ⟨σ1, w1, A1⟩ := incs_ok (n := n + 6) (f := f) (r := p.1) (c := p.2) (by lia) p5 p.2 (lid + 1) 0 g (σ.set 8 (.ref p.1)) (st.set 1 (.ml (R.map decB ++ [decB (lab g p.2)]))) rfl (Nat.lt_succ_of_le (Nat.le_trans hl5 (by decide))) A8 q0 qp
    have hs : sum5 (pop g p.2) = sum5 g + p.2.length := sum_pop p5
    have H1 : Of Y (pop g p.2) (R ++ [lab g p.2]) ((st.set 1 (.ml (R.map decB ++ [decB (lab g p.2)]))).set 0 (.ml (nL (pop g p.2)))) := by
      refine ⟨List.getElem?_set_self (by rw [List.length_set]; lia), ?_, pop_lt hY.z H.lt p3, fun r hr => ?_, ?_⟩
      · rw [List.getElem?_set_ne (by decide), List.getElem?_set_self l1, List.map_append]; rfl
      · rcases List.mem_append.mp hr with q | q
        · exact H.gk r q
        · rw [List.mem_singleton.mp q]; exact lab_gk hc5 (Nat.lt_of_le_of_lt hl5 (by decide))
      · rw [List.length_append, hs]; exact Nat.add_le_add H.ln hne
    have oth : ∀ i, 1 < i → ((st.set 1 (.ml (R.map decB ++ [decB (lab g p.2)]))).set 0 (.ml (nL (pop g p.2))))[i]? = st[i]? := fun i hi => by
      rw [List.getElem?_set_ne (by lia), List.getElem?_set_ne (by lia)]
    obtain ⟨σ', st', g', ks, w, A', H', P, o, s, _⟩ := pops_ok hY f1 t m (j + 1) (pop g p.2) (R ++ [lab g p.2]) σ1 _ e2 (Nat.lt_of_succ_lt_succ hm) A1 H1 ((oth f f1).trans sf) (fun q hq => by
      obtain ⟨q1, q2, q3, q5⟩ := hp q (.tail _ hq)
      exact ⟨q1, (oth _ (by lia)).trans q2, cyc_pop q3 (fun x hx hy => dj1 q hq x hy hx), q5⟩) dj2
    refine nG ?_
    clear nG
    rw [List.append_assoc] at H'
    refine ⟨σ', st', g', lab g p.2 :: ks, g_go ((src_r sf).trans (congrArg some (by rw [List.getElem?_map, e1]; rfl))) rfl ?_ w, A', H', ⟨p.2, p3, rfl, P⟩, fun i hi => (o i hi).trans (oth i hi), ?_, fun q => (nomatch q)⟩
    · exact n_go (xr_ex (r_mlApp (r_var A8.h5) H.s1 (rg_ok A8.h4 gnew H.s0 p2 hc5 (Nat.lt_of_le_of_lt hl5 (by decide))) H.s1 hRl)) (n_go (bd (r_var gnew) (bd rfl w1)) n_nil)
    · show sum5 g + (t.length + 1) ≤ sum5 g'
      lia
theorem cyc_lt {L : Nat → Nat → Nat} {g : Nat → Nat} {c : List Nat} (hL : ∀ k j, L k j ≤ 5) (hc : Cyc (nx L g) c) : ∀ x ∈ c, x < 5 := by
  obtain ⟨k, t, rfl, h⟩ := hc.ch
  have hN : ∀ k j, nx L g k = j + 1 → j < 5 := fun k j e => by
    have := hL k (g k)
    rw [show L k (g k) = j + 1 from e] at this; exact this
  have := ch_all (P := (· < 5)) (fun k _ j => hN k j) h.2 (hN k)
  exact fun x hx => (List.mem_cons.mp hx).elim (fun e => e ▸ this.2 k rfl) (this.1 x)
noncomputable abbrev roB : List PS := [.asgM 6 (.lst []), .for1 (.one 7) (.fn .range1 [.lit (.int 5)]) trB, .for1 (.one 8) (.var 6) poB]
theorem round_ok (hY : Ys Y) {g : Nat → Nat} {R : List Key} {σ : Vars} {st : Store} (A : At Y f σ) (H : Of Y g R st) :
    ∃ σ' st' g' ks f' ps, run F2 (n + 24) σ st roB = some (.next, σ', st') ∧ At Y f' σ' ∧ Of Y g' (R ++ ks) st' ∧ Pops (ldY Y) lab g ks g' ∧ st'[f']? = some (.ml (ps.map fun p : Nat × List Nat => .ref p.1)) ∧ (∀ p ∈ ps, st'[p.1]? = some (.ml (iL p.2))) ∧ (ps = [] → Still (ldY Y) g') ∧ sum5 g + ps.length ≤ sum5 g' := by
  have l1 : 1 < st.length := (List.getElem?_eq_some_iff.mp H.s1).1
  have old : ∀ {i : Nat} {m : MO}, st[i]? = some m → (st ++ [.ml []])[i]? = some m := fun {i m} e => (List.getElem?_append_left (List.getElem?_eq_some_iff.mp e).1).trans e
  have A0 : At Y st.length (σ.set 6 (.ref st.length)) := ⟨gset (by decide) A.h3, gset (by decide) A.h4, gset (by decide) A.h5, gnew⟩
  have R0 : Ro Y g st.length 0 (R.map decB) [] (st ++ [.ml []]) := ⟨old H.s0, old H.s1, l1, by rw [List.getElem?_append_right (Nat.le_refl _), Nat.sub_self]; rfl, fun _ q => (nomatch q), .nil, fun _ _ _ _ _ _ => Nat.zero_le _, Nat.le_refl _⟩
  refine nng fun nG => ?_
  obtain ⟨σ1, p1, t1, w1, A1, R1⟩ := turn_ok (n := n + 1) (K := 0) (by decide) hY.le H.lt A0 R0
  obtain ⟨σ2, p2, t2, w2, A2, R2⟩ := turn_ok (n := n + 1) (K := 1) (by decide) hY.le H.lt A1 R1
  obtain ⟨σ3, p3, t3, w3, A3, R3⟩ := turn_ok (n := n + 1) (K := 2) (by decide) hY.le H.lt A2 R2
  obtain ⟨σ4, p4, t4, w4, A4, R4⟩ := turn_ok (n := n + 1) (K := 3) (by decide) hY.le H.lt A3 R3
  obtain ⟨σ5, ps, t5, w5, A5, R5⟩ := turn_ok (n := n + 1) (K := 4) (by decide) hY.le H.lt A4 R4
  have dj := R5.dj
  obtain ⟨σ', st', g', ks, w, A', H', P, o, s, z⟩ := pops_ok (n := n + 5) hY R5.f1 ps (lid + 1) 0 g R σ5 t5 rfl (Nat.lt_succ_of_le (Nat.le_trans R5.ln (by decide))) A5 ⟨R5.s0, R5.s1, H.lt, H.gk, H.ln⟩ R5.sf (fun p hp => let ⟨q1, q2, q3, q5, _⟩ := R5.pp p hp; ⟨q1, q2, q3, q5⟩) dj
  refine nG ?_
  clear nG
  refine ⟨σ', st', g', ks, st.length, ps, n_go (xr_asgM (r_lst rs_nil)) (n_go (xr_for r_rng5 rfl (by decide : 5 ≤ 1048576) (f_cons rfl w1 (f_cons rfl w2 (f_cons rfl w3 (f_cons rfl w4 (f_cons rfl w5 f_nil)))))) (n_go (bd (r_var A5.h6) (bd rfl w)) n_nil)), A', H', P, (o _ R5.f1).trans R5.sf, fun p hp => ?_, fun e => ?_, s⟩
  · obtain ⟨q1, q2, _⟩ := R5.pp p hp
    exact (o _ (Nat.lt_trans R5.f1 q1)).trans q2
  · subst e
    rw [z rfl]
    intro c hc
    obtain ⟨m, _, h1, h2⟩ := min_ok (r := 0) (st := [.ml (iL c)]) (c := c) rfl (fun e => by obtain ⟨k, u, q, _⟩ := hc.ch; rw [e] at q; cases q)
    exact absurd (R5.al rfl c hc m h1 h2) (Nat.not_le.mpr (cyc_lt hY.le hc m h1))
end
end Mine.Internal
end
section
open PySem PySem.W PySem.Calls PyProof.Rows PySem.Builtin PySem.Builtin.Str PySem.StrLaws
set_option Elab.async false
set_option linter.unusedVariables false
set_option maxRecDepth 100000
namespace Mine.Internal
section
variable {Y : Nat → Nat → Nat} {n f : Nat} {st : Store}
theorem frz_ml {i : Nat} {l l' : List D} (h : st[i]? = some (.ml l)) (k : frzL (frz st n) l = some l') : frz st (n + 1) (.ref i) = some (.lst l') := by
  show orP none (orP ((getMl st (.ref i)).bind fun q => (frzL (frz st n) q.2).map D.lst) _) = _
  rw [gm h]
  show orP none (orP ((frzL (frz st n) l).map D.lst) _) = _
  rw [k]; rfl
theorem frz_fi {m : Nat} {d : D} (h : Fi m d) : frz st (n + 1) d = some d := by
  show orP (if D.refsLt 0 d = true then some d else none) _ = _
  rw [h.rf]; rfl
theorem frz_ints : ∀ c : List Nat, frzL (frz st (n + 1)) (iL c) = some (iL c)
  | [] => rfl
  | _ :: c => bd rfl (mp (frz_ints c))
theorem frz_found : ∀ {ps : List (Nat × List Nat)}, (∀ p ∈ ps, st[p.1]? = some (.ml (iL p.2))) → frzL (frz st 5) (ps.map fun p => .ref p.1) = some (ps.map fun p => .lst (iL p.2))
  | [], _ => rfl
  | p :: ps, h => bd (frz_ml (h p (.head _)) (frz_ints p.2)) (mp (frz_found fun q hq => h q (.tail _ hq)))
theorem ne_nil {l l' : List D} (h : st[f]? = some (.ml l)) (k : frzL (frz st 5) l = some l') (hf : Fi 3 (.lst l')) : cmpP st .NotEq (.ref f) (.lst []) = some (!l'.isEmpty) := by
  show (frz st 6 (.ref f)).bind (fun x => (seqEq x (.lst [])).map (!·)) = _
  rw [frz_ml h k]
  show (seqEq (.lst l') (.lst [])).map (!·) = _
  rw [seq_of hf (fi_lst (n := 0) (l := []) fun _ q => (nomatch q)) (by decide) (by decide)]
  cases l' <;> rfl
noncomputable abbrev rdC : PE := .cmp1 .NotEq (.var 6) (.lst [])
theorem rounds_ok (hY : Ys Y) : ∀ (m : Nat) {g : Nat → Nat} {R : List Key} {σ : Vars} {st : Store} {f : Nat} {ps : List (Nat × List Nat)}, At Y f σ → Of Y g R st → st[f]? = some (.ml (ps.map fun p => .ref p.1)) → (∀ p ∈ ps, st[p.1]? = some (.ml (iL p.2))) → (ps = [] → Still (ldY Y) g) → (ps = [] ∨ 15 < sum5 g + m) →
    ∃ σ' st' g' ks f', whl F2 (n + m + 25) σ st rdC roB = some (.next, σ', st') ∧ At Y f' σ' ∧ Of Y g' (R ++ ks) st' ∧ Pops (ldY Y) lab g ks g' ∧ Still (ldY Y) g' := by
  intro m
  induction m with
  | zero =>
    intro g R σ st f ps A H sf pp hs hm
    have e : ps = [] := hm.resolve_right fun q => absurd (sum_le H.lt) (Nat.not_le.mpr q)
    subst e
    exact ⟨σ, st, g, [], f, w_stop (tr_cmp1 (r_var A.h6) (r_lst rs_nil) (ne_nil sf rfl (fi_lst (n := 2) (l := []) fun _ q => (nomatch q)))), A, by rw [List.append_nil]; exact H, rfl, hs rfl⟩
  | succ m ih =>
    intro g R σ st f ps A H sf pp hs hm
    have hf : Fi 3 (.lst (ps.map fun p => .lst (iL p.2))) := fi_lst fun x hx => by
      obtain ⟨p, _, rfl⟩ := List.mem_map.mp hx
      exact fi_lst (n := 1) fun y hy => by obtain ⟨k, _, rfl⟩ := List.mem_map.mp hy; exact fi_int _
    have hc : ∀ b, (!(ps.map fun p => D.lst (iL p.2)).isEmpty) = b → evT F2 (n + m + 25) σ st rdC = some (b, st) := fun b e => tr_cmp1 (r_var A.h6) (r_lst rs_nil) (e ▸ ne_nil sf (frz_found pp) hf)
    cases ps with
    | nil => exact ⟨σ, st, g, [], f, w_stop (hc _ rfl), A, by rw [List.append_nil]; exact H, rfl, hs rfl⟩
    | cons p ps =>
      refine nng fun nG => ?_
      obtain ⟨σ1, st1, g1, ks, f1, ps1, w, A1, H1, P1, s1, pp1, hs1, hle⟩ := round_ok (n := n + m + 1) hY A H
      have hm1 : ps1 = [] ∨ 15 < sum5 g1 + m := by
        cases ps1 with
        | nil => exact .inl rfl
        | cons q ps1 => exact .inr (by have := hm.resolve_left (fun q => nomatch q); have h2 : sum5 g + (ps1.length + 1) ≤ sum5 g1 := hle; lia)
      obtain ⟨σ2, st2, g2, ks2, f2, w2, A2, H2, P2, S2⟩ := ih A1 H1 s1 pp1 hs1 hm1
      refine nG ?_
      clear nG
      rw [List.append_assoc] at H2
      exact ⟨σ2, st2, g2, ks ++ ks2, f2, w_go (hc _ rfl) w w2, A2, H2, pops_app P1 P2, S2⟩
noncomputable abbrev ldE : PE := .bin .Sub (.call 4 [.idx (.var 2) (.lit (.int 0)), .idx (.var 2) (.lit (.int 1)), .idx (.var 2) (.lit (.int 2))]) (.lit (.int 1))
theorem ld_ok {y : Nat} {σ : Vars} {st : Store} (hy : y < 125) (h : σ.get 2 = some (.str (aS y))) : ev F2 88 σ st ldE = some (cD (ld y), st) :=
  r_bin (r_call (rs_cons (r_idx (r_var h) r_lit rfl) (rs_cons (r_idx (r_var h) r_lit rfl) (rs_cons (r_idx (r_var h) r_lit rfl) rs_nil))) (six_ok hy)) r_lit (sub1 _)
theorem lds_ok {σ : Vars} {st : Store} (hy : ∀ k j, Y k j < 125) (h0 : σ.get 0 = some (dL5 (rowD Y))) : ev F2 90 σ st (.comp (.comp ldE (.one 2) (.var 1) none) (.one 1) (.var 0) none) = some (leD Y, st) := by
  have row : ∀ k, ev F2 89 (σ.set 1 (rowD Y k)) st (.comp ldE (.one 2) (.var 1) none) = some (.lst [cD (ldY Y k 0), cD (ldY Y k 1), cD (ldY Y k 2), cD (ldY Y k 3)], st) := fun k =>
    r_comp (r_var gnew) rfl (by show 4 < 1048576; decide) (m_cons rfl (ld_ok (hy k 0) gnew) (m_cons rfl (ld_ok (hy k 1) gnew) (m_cons rfl (ld_ok (hy k 2) gnew) (m_cons rfl (ld_ok (hy k 3) gnew) m_nil))))
  exact r_comp (r_var h0) rfl (by show 5 < 1048576; decide) (m_cons rfl (row 0) (m_cons rfl (row 1) (m_cons rfl (row 2) (m_cons rfl (row 3) (m_cons rfl (row 4) m_nil)))))
theorem once_ok (hY : Ys Y) (hy : ∀ k j, Y k j < 125) : ∃ g ks, callF F2 93 5 [dL5 (rowD Y)] st = some (.tup [.lst (nL g), rgD ks], st) ∧ Pops (ldY Y) lab (fun _ => 0) ks g ∧ Still (ldY Y) g ∧ (∀ k, k < 5 → g k < 4) ∧ (∀ r ∈ ks, Gk r) ∧ ks.length ≤ 15 := by
  have A0 : At Y 2 [(0, dL5 (rowD Y)), (3, leD Y), (4, .ref 0), (5, .ref 1), (6, .ref 2)] := ⟨rfl, rfl, rfl, rfl⟩
  have H0 : Of Y (fun _ => 0) [] [.ml (nL fun _ => 0), .ml [], .ml [.lst []]] := ⟨rfl, rfl, fun _ _ => by decide, fun _ q => (nomatch q), Nat.zero_le _⟩
  refine nng fun nG => ?_
  obtain ⟨σ1, st1, g1, ks, f1, ps1, w, A1, H1, P1, s1, pp1, hs1, hle⟩ := round_ok (n := 61) hY A0 H0
  obtain ⟨σ2, st2, g2, ks2, f2, w2, A2, H2, P2, S2⟩ := rounds_ok (n := 44) hY 16 A1 H1 s1 pp1 hs1 (.inr (by lia))
  refine nG ?_
  clear nG
  rw [List.nil_append] at H2
  have hfi := fi_rings H2.gk
  refine ⟨g2, ks ++ ks2, ?_, pops_app P1 P2, S2, H2.lt, H2.gk, Nat.le_trans H2.ln (sum_le H2.lt)⟩
  have c1 : evT F2 85 [(0, dL5 (rowD Y)), (3, leD Y), (4, .ref 0), (5, .ref 1), (6, .ref 2)] [.ml (nL fun _ => 0), .ml [], .ml [.lst []]] rdC = some (true, _) := tr_cmp1 (r_var rfl) (r_lst rs_nil) (ne_nil rfl rfl (fi_lst (n := 2) fun x hx => by rw [List.mem_singleton.mp hx]; exact fi_lst (n := 1) (l := []) fun _ q => (nomatch q)))
  refine c_closed (d := .tup [.ref 0, rgD (ks ++ ks2)]) (σ₁ := σ2) (s1 := st2) rfl rfl rfl ?_ ?_
  · refine n_go (xr_asg (lds_ok hy rfl)) (n_go (xr_asgM (r_lst (rs_cons r_lit (rs_cons r_lit (rs_cons r_lit (rs_cons r_lit (rs_cons r_lit rs_nil))))))) (n_go (xr_asgM (r_lst rs_nil)) (n_go (xr_asgM (r_lst (rs_cons (r_lst rs_nil) rs_nil))) (n_go (xr_whl (w_go c1 w w2)) (n_ret (xr_ret (r_tup (rs_cons (r_var A2.h4) (rs_cons (r_fn (rs_cons (r_var A2.h5) rs_nil) (sort_rings (asl H2.s1) H2.gk ?_)) rs_nil))))))))) 
    exact Nat.lt_of_le_of_lt (Nat.le_trans H2.ln (sum_le H2.lt)) (by decide)
  · have e : frzL (frz st2 5) [.ref 0, rgD (ks ++ ks2)] = some [.lst (nL g2), rgD (ks ++ ks2)] := bd (frz_ml H2.s0 rfl) (mp (bd (frz_fi hfi) (mp rfl)))
    show orP none (orP none (orP ((frzL (frz st2 5) [.ref 0, rgD (ks ++ ks2)]).map D.tup) _)) = _
    rw [e]; rfl
end
end Mine.Internal
end
section
open PySem PySem.W PySem.Calls PyProof.Rows PySem.Builtin PySem.Builtin.Str PySem.StrLaws
set_option Elab.async false
set_option linter.unusedVariables false
set_option maxRecDepth 100000
namespace Mine.Internal
noncomputable def Good (N : Nat → Nat) : List Nat → Prop
  | [] => True
  | k :: E => Good N E ∧ (N k = 0 ∨ ∃ j ∈ E, N k = j + 1)
section
variable {N M : Nat → Nat}
theorem good_congr : ∀ {E : List Nat}, (∀ k ∈ E, N k = M k) → Good N E → Good M E
  | [], _, _ => trivial
  | k :: E, e, h => ⟨good_congr (fun j hj => e j (.tail _ hj)) h.1, e k (.head _) ▸ h.2⟩
theorem good_dead {c : List Nat} (hc : Cyc N c) : ∀ {E : List Nat}, Good N E → ∀ x ∈ c, x ∉ E
  | [], _, _, _ => fun q => nomatch q
  | k :: E, h, x, hx => fun q => by
    rcases List.mem_cons.mp q with rfl | q
    · obtain ⟨y, e, hy⟩ := hc.next hx
      rcases h.2 with z | ⟨j, hj, z⟩
      · rw [z] at e; cases e
      · cases Nat.succ.inj (z.symm.trans e)
        exact good_dead hc h.1 _ hy hj
    · exact good_dead hc h.1 x hx q
theorem good_way {E : List Nat} (hE : Good N E) : ∀ {w : List Nat} {b a : Nat}, Ch N b w a → (a = 0 ∨ ∃ j ∈ E, a = j + 1) → Good N (w ++ E) ∧ (b = 0 ∨ ∃ j ∈ w ++ E, b = j + 1)
  | [], b, a, h, ha => ⟨hE, (show b = a from h) ▸ ha⟩
  | k :: w, b, a, h, ha =>
    have ⟨h1, h2⟩ := good_way hE h.2 ha
    ⟨⟨h1, h2⟩, .inr ⟨k, .head _, h.1⟩⟩
end
noncomputable abbrev ent (Y : Nat → Nat → Nat) (k j : Nat) : D := .tup [.str (S (List.replicate j 32)), .str (aS (Y k j))]
noncomputable def pile (Y : Nat → Nat → Nat) (k : Nat) : Nat → List D
  | 0 => []
  | m + 1 => pile Y k m ++ [ent Y k (3 - m)]
theorem pile_top {Y : Nat → Nat → Nat} {k j : Nat} (h : j < 4) : pile Y k (4 - j) = pile Y k (4 - (j + 1)) ++ [ent Y k j] := by
  match j, h with
  | 0, _ => rfl
  | 1, _ => rfl
  | 2, _ => rfl
  | 3, _ => rfl
theorem pile_len {Y : Nat → Nat → Nat} {k : Nat} : ∀ m, (pile Y k m).length = m
  | 0 => rfl
  | m + 1 => by show (pile Y k m ++ [_]).length = _; rw [List.length_append, pile_len m]; rfl
noncomputable def wt (g : Nat → Nat) (w : List Nat) : List Nat := w.flatMap fun c => List.replicate (g c) 32 ++ [97 + c]
theorem wt_app (g : Nat → Nat) (v w : List Nat) : wt g (v ++ w) = wt g v ++ wt g w := List.flatMap_append
theorem wt_mem {g : Nat → Nat} {w : List Nat} {j : Nat} : 97 + j ∈ wt g w ↔ j ∈ w := by
  refine ⟨fun h => ?_, fun h => List.mem_flatMap.mpr ⟨j, h, List.mem_append_right _ (.head _)⟩⟩
  obtain ⟨c, hc, h⟩ := List.mem_flatMap.mp h
  rcases List.mem_append.mp h with q | q
  · have := List.eq_of_mem_replicate q
    lia
  · rw [Nat.add_left_cancel (List.mem_singleton.mp q)]; exact hc
theorem filt_rep (n : Nat) : (List.replicate n 32).filter (· != 32) = [] := List.filter_eq_nil_iff.mpr fun x hx => by rw [List.eq_of_mem_replicate hx]; decide
theorem wt_filt {g : Nat → Nat} : ∀ w : List Nat, (wt g w).filter (· != 32) = w.map (97 + ·)
  | [] => rfl
  | c :: w => by
    show (List.replicate (g c) 32 ++ [97 + c] ++ wt g w).filter (· != 32) = _
    rw [List.filter_append, List.filter_append, filt_rep, wt_filt w, List.filter_cons_of_pos (by rw [bne_iff_ne]; lia)]; rfl
theorem wt_len {g : Nat → Nat} : ∀ w : List Nat, (∀ c ∈ w, g c < 4) → (wt g w).length ≤ 4 * w.length
  | [], _ => Nat.le_refl _
  | c :: w, h => by
    show (List.replicate (g c) 32 ++ [97 + c] ++ wt g w).length ≤ 4 * (w.length + 1)
    have h1 := h c (.head _)
    have h2 := wt_len w fun x hx => h x (.tail _ hx)
    rw [List.length_append, List.length_append, List.length_replicate]
    show g c + 1 + _ ≤ _
    lia
theorem prs_way {g : Nat → Nat} : ∀ w : List Nat, prsOf (w.map (prD g)) = some (w.map fun c => (S (List.replicate (g c) 32), S [97 + c]))
  | [] => rfl
  | c :: w => bd rfl (bd rfl (mp (prs_way w)))
theorem txt_way {g : Nat → Nat} (w : List Nat) : pairTexts (w.map fun c => (S (List.replicate (g c) 32), S [97 + c])) = (w.map fun c => List.replicate (g c) 32 ++ [97 + c]).map S := by
  unfold pairTexts
  rw [List.map_map, List.map_map]
  refine List.map_congr_left fun c _ => ?_
  exact (join0 [List.replicate (g c) 32, [97 + c]]).trans (congrArg S (by rw [List.flatten_cons, List.flatten_cons]; rfl))
theorem str_way {g : Nat → Nat} {w : List Nat} (hg : ∀ c ∈ w, g c < 4) (hl : w.length ≤ 5) : strAcc (w.map (prD g)) = some (S (wt g w)) := by
  have e : (w.map fun c => List.replicate (g c) 32 ++ [97 + c]).flatten = wt g w := rfl
  have l : (wt g w).length ≤ 4096 := Nat.le_trans (wt_len w hg) (by lia)
  refine bd (prs_way w) ((if_pos ?_).trans (congrArg some ?_))
  · rw [txt_way, jok (by rw [e]; exact l), Nat.ble_eq_true_of_le (by rw [List.length_map]; exact Nat.le_trans hl (by decide))]
    have : (w.map fun c => (S (List.replicate (g c) 32), S [97 + c])).all (fun p => JoinOk ⟨#[]⟩ [p.1, p.2]) = true := List.all_eq_true.mpr fun p hp => by
      obtain ⟨c, hc, rfl⟩ := List.mem_map.mp hp
      refine jok (ws := [List.replicate (g c) 32, [97 + c]]) ?_
      rw [List.flatten_cons, List.flatten_cons, List.length_append, List.length_replicate]
      exact Nat.le_trans (Nat.add_le_add_right (Nat.le_of_lt (hg c hc)) _) (by show 4 + 1 ≤ 4096; decide)
    rw [this]; rfl
  · rw [txt_way, join0]; rfl
end Mine.Internal
end
section
open PySem PySem.W PySem.Calls PyProof.Rows PySem.Builtin PySem.Builtin.Str PySem.StrLaws
set_option Elab.async false
set_option linter.unusedVariables false
set_option maxRecDepth 100000
namespace Mine.Internal
noncomputable abbrev rfD : D := .lst [.ref 1, .ref 2, .ref 3, .ref 4, .ref 5]
noncomputable abbrev dtD (g : Nat → Nat) : D := dL5 fun k => .int ((g k + 1 : Nat) : Int)
structure Wt (g : Nat → Nat) (E : List Nat) (r : Nat) (σ : Vars) : Prop where
  h3 : σ.get 3 = some rfD
  h6 : σ.get 6 = some (dtD g)
  h7 : σ.get 7 = some (.ref 6)
  h8 : σ.get 8 = some (.str (S (E.map (97 + ·))))
  h11 : σ.get 11 = some (.ref r)
section
variable {Y : Nat → Nat → Nat} {g : Nat → Nat} {E w : List Nat} {R : List Key} {n r j k : Nat} {σ : Vars} {st : Store}
theorem Wt.set {i : Nat} {d : D} (h : Wt g E r σ) (hi : 12 ≤ i ∨ i = 10) : Wt g E r (σ.set i d) :=
  ⟨gset (by lia) h.h3, gset (by lia) h.h6, gset (by lia) h.h7, gset (by lia) h.h8, gset (by lia) h.h11⟩
noncomputable def Pl (Y : Nat → Nat → Nat) (g : Nat → Nat) (st : Store) : Prop := ∀ k, k < 5 → st[k + 1]? = some (.acc (pile Y k (4 - g k)))
theorem Pl.set {l : List D} (h : Pl Y g st) (hk : k < 5) (hl : l = pile Y k (4 - (g k + 1))) : Pl Y (upd g k) (st.set (k + 1) (.acc l)) := fun i hi => by
  by_cases e : i = k
  · subst e
    rw [List.getElem?_set_self (List.getElem?_eq_some_iff.mp (h i hi)).1, hl]
    exact congrArg (fun m => some (MO.acc (pile Y i (4 - m)))) (if_pos rfl).symm
  · rw [List.getElem?_set_ne (by lia), h i hi]
    exact congrArg (fun m => some (MO.acc (pile Y i (4 - m)))) (if_neg e).symm
theorem ix_rf {st : Store} (h : k < 5) : idxP st rfD (.int k) = some (.ref (k + 1)) := five (P := fun k => idxP st rfD (.int k) = some (.ref (k + 1))) rfl rfl rfl rfl rfl h
theorem find_t : ∀ k < 5, Txt.contains ⟨#[97, 98, 99, 100, 101]⟩ (S [97 + k]) = true ∧ Txt.find ⟨#[97, 98, 99, 100, 101]⟩ (S [97 + k]) = (k : Int) := by decide +kernel
theorem find_k {st : Store} (h : k < 5) : meP st .index (.str ⟨#[97, 98, 99, 100, 101]⟩) [.str (S [97 + k])] = some (.int k) := (if_pos (find_t k h).1).trans (congrArg (fun i => some (D.int i)) (find_t k h).2)
noncomputable abbrev retX : PS := .ret (.tup [.lst [.lst []], .var 3])
noncomputable abbrev lB : List PS := [.ifs (.cmp1 .NotEq (.idx (.accPop (.idx (.var 3) (.me .index abc [.var 16]))) (.lit (.int 0))) (.var 15)) [retX] []]
theorem pile_pop {e : PE} {s1 : Store} (he : ev F2 (n + 1) σ st e = some (.ref (k + 1), s1)) (h : s1[k + 1]? = some (.acc (pile Y k (4 - g k)))) (hg : g k < 4) : ev F2 (n + 2) σ st (.accPop e) = some (ent Y k (g k), s1.set (k + 1) (.acc (pile Y k (4 - (g k + 1))))) := by
  rw [pile_top hg] at h
  exact r_pop he h (by rw [← pile_top hg, pile_len]; exact Nat.le_trans (Nat.sub_le _ _) (by decide))
theorem take_ok {r : Nat} {z : Option D} : ∀ (t : List Nat) {g g0 : Nat → Nat} {σ : Vars} {st : Store}, t.Nodup → (∀ x ∈ t, x < 5 ∧ g x < 4) → Wt g0 E r σ → σ.get 10 = some (.int j) → σ.get 14 = z → Pl Y g st →
    ∃ σ' st', forL (fun σ st => run F2 (n + 12) σ st lB) (.tup [15, 16]) (t.map (prD g)) σ st = some (.next, σ', st') ∧ Wt g0 E r σ' ∧ σ'.get 10 = some (.int j) ∧ σ'.get 14 = z ∧ Pl Y (pop g t) st' ∧ (∀ i, i = 0 ∨ 5 < i → st'[i]? = st[i]?)
  | [], g, g0, σ, st, _, _, W, h, h14, P => ⟨σ, st, f_nil, W, h, h14, P, fun _ _ => rfl⟩
  | k :: t, g, g0, σ, st, nd, h5, W, h, h14, P => by
    refine nng fun nG => ?_
    obtain ⟨n1, n2⟩ := List.nodup_cons.mp nd
    obtain ⟨k5, k4⟩ := h5 k (.head _)
    have W2 := (W.set (i := 15) (d := .str (S (List.replicate (g k) 32))) (by decide)).set (i := 16) (d := .str (S [97 + k])) (by decide)
    have e : t.map (prD g) = t.map (prD (upd g k)) := List.map_congr_left fun x hx => by
      have : upd g k x = g x := if_neg fun (q : x = k) => n1 (q ▸ hx)
      show D.tup [.str (S (List.replicate (g x) 32)), _] = D.tup [.str (S (List.replicate (upd g k x) 32)), _]
      rw [this]
    obtain ⟨σ', st', w1, a, b, b14, c, d⟩ := take_ok t (g := upd g k) (g0 := g0) (σ := (σ.set 15 (.str (S (List.replicate (g k) 32)))).set 16 (.str (S [97 + k]))) (st := st.set (k + 1) (.acc (pile Y k (4 - (g k + 1))))) n2
      (fun x hx => by have : upd g k x = g x := if_neg fun (q : x = k) => n1 (q ▸ hx); rw [this]; exact h5 x (.tail _ hx)) W2 (gset (by decide) (gset (by decide) h)) (gset (by decide) (gset (by decide) h14)) (P.set k5 rfl)
    refine nG ?_
    clear nG
    refine ⟨σ', st', f_cons (σ₂ := (σ.set 15 (.str (S (List.replicate (g k) 32)))).set 16 (.str (S [97 + k]))) rfl (n_go (xr_ifF (tr_cmp1 (r_idx (pile_pop (g := g) (r_idx (r_var W2.h3) (r_me r_lit (rs_cons (r_var gnew) rs_nil) (find_k k5)) (ix_rf k5)) (P k k5) k4) r_lit rfl) (r_var (gset (by decide) gnew)) ne_str) n_nil) n_nil) (e ▸ w1), a, b, b14, c, fun i hi => ?_⟩
    rw [d i hi, List.getElem?_set_ne (by lia)]
end
end Mine.Internal
end
section
open PySem PySem.W PySem.Calls PyProof.Rows PySem.Builtin PySem.Builtin.Str PySem.StrLaws
set_option Elab.async false
set_option linter.unusedVariables false
set_option maxRecDepth 100000
namespace Mine.Internal
section
variable {Y : Nat → Nat → Nat} {g : Nat → Nat} {E w w1 w2 : List Nat} {R : List Key} {n r j k : Nat} {σ : Vars} {st : Store}
structure Ws (Y : Nat → Nat → Nat) (g : Nat → Nat) (R : List Key) (r : Nat) (w : List Nat) (st : Store) : Prop where
  t : st[0]? = some .tab
  p : Pl Y g st
  s6 : st[6]? = some (.ml (R.map decB))
  sr : st[r]? = some (.acc (w.map (prD g)))
  r6 : 6 < r
  lt : ∀ k, k < 5 → g k < 4
  gk : ∀ r ∈ R, Gk r
  ln : R.length ≤ sum5 g
theorem tab_of (h : st[0]? = some .tab) : hasTab st = true := by
  cases st with
  | nil => cases h
  | cons m r => cases h; rfl
noncomputable abbrev cutE : PE := .fn .len [.repl (.slc (.var 13) none (some (.me .index (.var 13) [.idx abc (.var 10)]))) ⟨#[32]⟩ ⟨#[]⟩]
theorem cut_ok (hj : j < 5) (h10 : σ.get 10 = some (.int j)) (h13 : σ.get 13 = some (.str (S (wt g (w1 ++ j :: w2))))) (n1 : j ∉ w1) (hg : ∀ c ∈ w1 ++ j :: w2, g c < 4) (hl : (w1 ++ j :: w2).length ≤ 5) : ev F2 (n + 9) σ st cutE = some (.int (w1.length : Nat), st) := by
  have e : wt g (w1 ++ j :: w2) = (wt g w1 ++ List.replicate (g j) 32) ++ (97 + j) :: wt g w2 := by
    rw [wt_app]
    show wt g w1 ++ (List.replicate (g j) 32 ++ [97 + j] ++ wt g w2) = _
    rw [List.append_assoc, List.append_assoc]; rfl
  have nm : 97 + j ∉ wt g w1 ++ List.replicate (g j) 32 := fun q => by
    rcases List.mem_append.mp q with q | q
    · exact n1 (wt_mem.mp q)
    · have := List.eq_of_mem_replicate q
      lia
  have hw : (wt g (w1 ++ j :: w2)).length ≤ 4096 := Nat.le_trans (wt_len _ hg) (by lia)
  rw [e] at h13 hw
  generalize hv : wt g w1 ++ List.replicate (g j) 32 = v at h13 hw nm
  have lt : v.length < (v ++ (97 + j) :: wt g w2).length := by rw [List.length_append]; exact Nat.lt_add_of_pos_right (Nat.succ_pos _)
  have hi : meP st .index (.str (S (v ++ (97 + j) :: wt g w2))) [.str (S [97 + j])] = some (.int (v.length : Nat)) :=
    (if_pos (by rw [has_one]; exact decide_eq_true (List.mem_append_right _ (.head _)))).trans (congrArg (fun i => some (D.int i)) (find_at nm))
  have hs : slcP (.str (S (v ++ (97 + j) :: wt g w2))) none (some (.int (v.length : Nat))) = some (.str (S v)) := (slc_pre lt hw).trans (by rw [List.take_left])
  have hf : v.filter (· != 32) = w1.map (97 + ·) := by rw [← hv, List.filter_append, filt_rep, List.append_nil, wt_filt]
  have hr : replP (.str (S v)) ⟨#[32]⟩ ⟨#[]⟩ = some (.str (S (w1.map (97 + ·)))) := by
    refine (if_pos ?_).trans (congrArg (fun s => some (D.str s)) ((repl_blank v).trans (congrArg S hf)))
    rw [S_len, Nat.ble_eq_true_of_le (Nat.le_trans (Nat.le_of_lt lt) (Nat.le_trans hw (by decide)))]
    decide
  have hl2 : fnP st .len [.str (S (w1.map (97 + ·)))] = some (.int (w1.length : Nat)) := by
    show orP (leP' (S (w1.map (97 + ·))).length _) _ = _
    rw [S_len, List.length_map]
    show orP (if w1.length ≤ lid then some (D.int (w1.length : Nat)) else none) _ = _
    rw [if_pos (by rw [List.length_append] at hl; exact Nat.le_trans (Nat.le_trans (Nat.le_add_right _ _) hl) (by decide))]
    rfl
  exact r_fn (rs_cons (r_repl (r_slc (r_var h13) ro_none (ro_some (r_me (r_var h13) (rs_cons (r_idx r_lit (r_var h10) (ix_abc hj)) rs_nil) hi)) hs) hr) rs_nil) hl2
noncomputable abbrev rB : List PS := [.asg 14 (.popFrom (.var 11) (some cutE)), .for1 (.tup [15, 16]) (.var 14) lB, .ex (.mlAppend (.var 7) (.fn .sorted [.var 14])),
  .asg 6 (.call 6 [.var 6, .me .join (.lit (.str ⟨#[]⟩)) [.comp (.var 18) (.tup [17, 18]) (.var 14) none], .fn .len [.var 7]]), .ifs (.cmp1 .Eq (.var 6) (.lst [])) [retX] []]
theorem names_ok {c : List Nat} : ∀ (t : List Nat) (σ : Vars) (st : Store), mapGo (fun σ st => ev F2 (n + 1) σ st (.var 18)) (.tup [17, 18]) σ (t.map (prD g)) st = some (t.map fun k => .str (S [97 + k]), st)
  | [], _, _ => rfl
  | k :: t, σ, st => m_cons (σ₁ := (σ.set 17 (.str (S (List.replicate (g k) 32)))).set 18 (.str (S [97 + k]))) rfl (r_var gnew) (names_ok (c := c) t σ st)
theorem fi_five {x : Nat → Int} : Fi 1 (dL5 fun k => .int (x k)) := ⟨rfl, rfl, Nat.le_refl 1, rfl⟩
theorem eq_nil {st : Store} {g : Nat → Nat} : cmpP st .Eq (dtD g) (.lst []) = some false := by
  show seqEq (dtD g) (.lst []) = some false
  rw [seq_of (fi_five (x := fun k => ((g k + 1 : Nat) : Int))) (fi_lst (n := 0) (l := []) fun _ q => (nomatch q)) (by decide) (by decide)]; rfl
theorem flat_one : ∀ t : List Nat, (t.map fun k => [97 + k]).flatten = t.map (97 + ·)
  | [] => rfl
  | k :: t => congrArg ((97 + k) :: ·) (flat_one t)
theorem ring_ok (hY : Ys Y) (hj : j < 5) (W : Wt g E r σ) (H : Ws Y g R r (w1 ++ j :: w2) st) (h10 : σ.get 10 = some (.int j)) (h13 : σ.get 13 = some (.str (S (wt g (w1 ++ j :: w2))))) (nd : (w1 ++ j :: w2).Nodup) (h5 : ∀ x ∈ w1 ++ j :: w2, x < 5) (hc : Cyc (nx (ldY Y) g) (j :: w2)) :
    ∃ σ' st', run F2 (n + 26) σ st rB = some (.next, σ', st') ∧ Wt (pop g (j :: w2)) E r σ' ∧ σ'.get 10 = some (.int j) ∧ Ws Y (pop g (j :: w2)) (R ++ [lab g (j :: w2)]) r w1 st' := by
  have hl5 : (w1 ++ j :: w2).length ≤ 5 := nd.length_le_of_subset (l₂ := List.range 5) fun x hx => List.mem_range.mpr (h5 x hx)
  have sub : ∀ x ∈ j :: w2, x ∈ w1 ++ j :: w2 := fun x hx => List.mem_append_right _ hx
  refine nng fun nG => ?_
  obtain ⟨nd1, nd2, nd3⟩ := List.nodup_append.mp nd
  have n1 : ∀ x ∈ w1, x ∉ j :: w2 := fun x hx hy => nd3 x hx x hy rfl
  have cl : (j :: w2).length ≤ 5 := by rw [List.length_append] at hl5; exact Nat.le_trans (Nat.le_add_left _ _) hl5
  have hl : ((w1 ++ j :: w2).map (prD g)).length ≤ lid := by rw [List.length_map]; exact Nat.le_trans hl5 (by decide)
  have ed : ((w1 ++ j :: w2).map (prD g)).drop w1.length = (j :: w2).map (prD g) := by rw [← List.map_drop, List.drop_left]
  have et : ((w1 ++ j :: w2).map (prD g)).take w1.length = w1.map (prD g) := by rw [← List.map_take, List.take_left]
  have hf : fromP ((w1 ++ j :: w2).map (prD g)) (some (.int (w1.length : Nat))) = some w1.length := if_pos ⟨Int.natCast_nonneg _, by rw [List.length_map, List.length_append]; exact Nat.le_add_right _ _⟩
  have x1 : exec1 F2 (n + 25) σ st (.asg 14 (.popFrom (.var 11) (some cutE))) = some (.next, σ.set 14 (.lst ((j :: w2).map (prD g))), st.set r (.acc (w1.map (prD g)))) := by
    rw [← ed, ← et]
    exact xr_asg (r_popFrom (r_var W.h11) H.sr (ro_some (cut_ok hj h10 h13 (fun q => n1 j q (.head _)) (fun c hc => H.lt c (h5 c hc)) hl5)) H.sr hl hf)
  have r6 := H.r6
  have P1 : Pl Y g (st.set r (.acc (w1.map (prD g)))) := fun i hi => by rw [List.getElem?_set_ne (by lia)]; exact H.p i hi
  obtain ⟨σ2, st2, w2', W2, a10, a14, P2, o2⟩ := take_ok (n := n + 11) (Y := Y) (E := E) (r := r) (j := j) (z := some (.lst ((j :: w2).map (prD g)))) (j :: w2) (g := g) (g0 := g) (σ := σ.set 14 (.lst ((j :: w2).map (prD g)))) (st := st.set r (.acc (w1.map (prD g)))) nd2 (fun x hx => ⟨h5 x (sub x hx), H.lt x (h5 x (sub x hx))⟩) (W.set (by decide)) (gset (by decide) h10) gnew P1
  refine nG ?_
  clear nG
  have s6 : st2[6]? = some (.ml (R.map decB)) := by rw [o2 6 (by decide), List.getElem?_set_ne (by lia)]; exact H.s6
  have hc6 : ∀ x ∈ j :: w2, x < 5 ∧ g x < 6 := fun x hx => ⟨h5 x (sub x hx), Nat.lt_of_lt_of_le (H.lt x (h5 x (sub x hx))) (by decide)⟩
  have hRl : (R.map decB).length ≤ lid := by rw [List.length_map]; exact Nat.le_trans (Nat.le_trans H.ln (sum_le H.lt)) (by decide)
  have cl64 : (j :: w2).length < 64 := Nat.lt_of_le_of_lt cl (by decide)
  have x3 : exec1 F2 (n + 23) σ2 st2 (.ex (.mlAppend (.var 7) (.fn .sorted [.var 14]))) = some (.next, σ2, st2.set 6 (.ml (R.map decB ++ [decB (lab g (j :: w2))]))) :=
    xr_ex (r_mlApp (r_var W2.h7) s6 (r_fn (rs_cons (r_var a14) rs_nil) (sort_ring hc6 cl64)) s6 hRl)
  have s6' : (st2.set 6 (.ml (R.map decB ++ [decB (lab g (j :: w2))])))[6]? = some (.ml (R.map decB ++ [decB (lab g (j :: w2))])) := List.getElem?_set_self (List.getElem?_eq_some_iff.mp s6).1
  have hs : sum5 (pop g (j :: w2)) = sum5 g + (j :: w2).length := sum_pop fun x hx => (hc6 x hx).1
  have hd : (dL5 fun k => .int ((g k + 1 + if inR ((j :: w2).map (97 + ·)) k = true then 1 else 0 : Nat) : Int)) = dtD (pop g (j :: w2)) := by
    have : ∀ k, (g k + 1 + if inR ((j :: w2).map (97 + ·)) k = true then 1 else 0 : Nat) = pop g (j :: w2) k + 1 := fun k => by
      have e : inR ((j :: w2).map (97 + ·)) k = decide (k ∈ j :: w2) := by
        unfold inR
        rw [decide_eq_decide]
        exact ⟨fun q => by obtain ⟨x, hx, e⟩ := List.mem_map.mp q; exact Nat.add_left_cancel e ▸ hx, fun q => List.mem_map.mpr ⟨k, q, rfl⟩⟩
      rw [e]
      by_cases hk : k ∈ j :: w2
      · rw [decide_eq_true hk, pop_in g nd2 hk]; rfl
      · rw [decide_eq_false hk, pop_out g hk]; rfl
    exact congrArg (fun f : Nat → D => dL5 f) (funext fun k => congrArg (fun m : Nat => D.int m) (this k))
  have x4 : exec1 F2 (n + 22) σ2 (st2.set 6 (.ml (R.map decB ++ [decB (lab g (j :: w2))]))) (.asg 6 (.call 6 [.var 6, .me .join (.lit (.str ⟨#[]⟩)) [.comp (.var 18) (.tup [17, 18]) (.var 14) none], .fn .len [.var 7]])) = some (.next, σ2.set 6 (dtD (pop g (j :: w2))), st2.set 6 (.ml (R.map decB ++ [decB (lab g (j :: w2))]))) := by
    rw [← hd]
    have jl : ((j :: w2).map fun k => [97 + k]).flatten.length ≤ 4096 := by rw [flat_one, List.length_map]; exact Nat.le_trans cl (by decide)
    have jo := join_ok (st := st2.set 6 (.ml (R.map decB ++ [decB (lab g (j :: w2))]))) jl
    rw [flat_one, List.map_map] at jo
    have ln : fnP (st2.set 6 (.ml (R.map decB ++ [decB (lab g (j :: w2))]))) .len [.ref 6] = some (.int ((R.map decB ++ [decB (lab g (j :: w2))]).length : Nat)) := by
      show orP none ((asList _ (.ref 6)).bind _) = _
      rw [asl s6']
      exact if_pos (by rw [List.length_append]; exact Nat.succ_le_succ (Nat.le_trans (by rw [List.length_map]; exact Nat.le_trans H.ln (sum_le H.lt)) (by decide)))
    exact xr_asg (r_call (rs_cons (r_var W2.h6) (rs_cons (r_me r_lit (rs_cons (r_comp (r_var a14) rfl (by rw [List.length_map]; exact Nat.lt_of_le_of_lt cl (by decide)) (names_ok (c := []) (j :: w2) _ _)) rs_nil) jo) (rs_cons (r_fn (rs_cons (r_var W2.h7) rs_nil) ln) rs_nil)))
      (sent_ok (n := n) (d := fun k => g k + 1) fun k hk => ⟨Nat.succ_le_succ (Nat.zero_le _), Nat.succ_le_succ (Nat.le_of_lt_succ (Nat.lt_succ_of_lt (H.lt k hk)))⟩))
  refine ⟨σ2.set 6 (dtD (pop g (j :: w2))), st2.set 6 (.ml (R.map decB ++ [decB (lab g (j :: w2))])), n_go x1 (n_go (xr_for (r_var gnew) rfl (by rw [List.length_map]; exact Nat.le_trans cl (by decide)) w2') (n_go x3 (n_go x4 (n_go (xr_ifF (tr_cmp1 (r_var gnew) (r_lst rs_nil) eq_nil) n_nil) n_nil)))),
    ⟨gset (by decide) W2.h3, gnew, gset (by decide) W2.h7, gset (by decide) W2.h8, gset (by decide) W2.h11⟩, gset (by decide) a10, ?_⟩
  refine ⟨?_, fun i hi => ?_, ?_, ?_, r6, pop_lt hY.z H.lt hc, fun q hq => ?_, ?_⟩
  · rw [List.getElem?_set_ne (by decide), o2 0 (by decide), List.getElem?_set_ne (by lia)]; exact H.t
  · rw [List.getElem?_set_ne (by lia)]; exact P2 i hi
  · rw [s6', List.map_append]; rfl
  · rw [List.getElem?_set_ne (by lia), o2 r (by lia), List.getElem?_set_self (List.getElem?_eq_some_iff.mp H.sr).1]
    refine congrArg (fun l => some (MO.acc l)) (List.map_congr_left fun x hx => ?_)
    show D.tup [.str (S (List.replicate (g x) 32)), _] = D.tup [.str (S (List.replicate (pop g (j :: w2) x) 32)), _]
    rw [pop_out g (n1 x hx)]
  · rcases List.mem_append.mp hq with q | q
    · exact H.gk _ q
    · rw [List.mem_singleton.mp q]; exact lab_gk hc6 cl64
  · rw [List.length_append, hs]; exact Nat.add_le_add H.ln (Nat.succ_pos _)
end
end Mine.Internal
end
section
open PySem PySem.W PySem.Calls PyProof.Rows PySem.Builtin PySem.Builtin.Str PySem.StrLaws
set_option Elab.async false
set_option linter.unusedVariables false
set_option maxRecDepth 100000
namespace Mine.Internal
section
variable {Y : Nat → Nat → Nat} {g : Nat → Nat} {E w : List Nat} {R : List Key} {n r j k s a : Nat} {σ : Vars} {st : Store}
noncomputable abbrev tmC : PE := .bor [.cmp1 .Eq (.var 10) (.neg (.lit (.int 1))), .cmp1 .In (.idx abc (.var 10)) (.var 8)]
theorem ltr_in {E : List Nat} {j : Nat} : 97 + j ∈ E.map (97 + ·) ↔ j ∈ E :=
  ⟨fun q => by obtain ⟨x, hx, e⟩ := List.mem_map.mp q; exact Nat.add_left_cancel e ▸ hx, fun q => List.mem_map.mpr ⟨j, q, rfl⟩⟩
theorem tm_ok (ha : a ≤ 5) (h10 : σ.get 10 = some (cD a)) (h8 : σ.get 8 = some (.str (S (E.map (97 + ·))))) : ∃ b, evT F2 (n + 7) σ st tmC = some (b, st) ∧ (b = true ↔ a = 0 ∨ ∃ j ∈ E, a = j + 1) := by
  cases a with
  | zero => exact ⟨true, tr_or (o_stop (tr_cmp1 (r_var h10) (r_neg r_lit) rfl)), fun _ => .inl rfl, fun _ => rfl⟩
  | succ j =>
    have e1 : cmpP st .Eq (.int j) (.int (-1)) = some false := congrArg some (beq_eq_false_iff_ne.mpr (by lia))
    have e2 : evT F2 (n + 4) σ st (.cmp1 .In (.idx abc (.var 10)) (.var 8)) = some (decide (97 + j ∈ E.map (97 + ·)), st) := tr_cmp1 (r_idx r_lit (r_var h10) (ix_abc ha)) (r_var h8) in_str
    have e3 : evOr F2 (n + 6) σ st [.cmp1 .Eq (.var 10) (.neg (.lit (.int 1))), .cmp1 .In (.idx abc (.var 10)) (.var 8)] = some (decide (97 + j ∈ E.map (97 + ·)), st) := o_go (tr_cmp1 (r_var h10) (r_neg r_lit) e1) (by
      revert e2
      cases decide (97 + j ∈ E.map (97 + ·)) with
      | true => exact fun e => o_stop e
      | false => exact fun e => o_go e o_nil)
    refine ⟨_, tr_or e3, ?_⟩
    rw [decide_eq_true_iff, ltr_in]
    exact ⟨fun q => .inr ⟨j, q, rfl⟩, fun q => q.elim (fun e => nomatch e) fun ⟨i, hi, e⟩ => Nat.succ.inj e ▸ hi⟩
theorem pushE_ok {e p q : PE} {x y : D} {i : Nat} {l : List D} {s1 s2 s3 : Store} (h : ev F2 (n + 8) σ st e = some (.ref i, s1)) (h1 : s1[i]? = some (.acc l)) (hp : ev F2 (n + 7) σ s1 p = some (x, s2)) (hq : ev F2 (n + 6) σ s2 q = some (y, s3)) (h3 : s3[i]? = some (.acc l)) (hl : l.length ≤ lid) : exec1 F2 (n + 10) σ st (.ex (.meth 20 e [p, q])) = some (.next, σ, s3.set i (.acc (l ++ [.tup [x, y]]))) :=
  xr_ex (r_meth h h1 (rs_cons hp (rs_cons hq rs_nil)) (c_openN (pf := pf20) rfl rfl rfl (n_go (xr_ex (r_app (r_var rfl) h3 (r_tup (rs_cons (r_var rfl) (rs_cons (r_var rfl) rs_nil))) h3 hl)) n_nil)))
noncomputable abbrev wB : List PS := [.ifs tmC [.brk] [], .asg 13 (.accStr (.var 11)), .ifs (.cmp1 .In (.idx abc (.var 10)) (.var 13)) rB [], .asgT [15, 19] (.accPop (.idx (.var 3) (.var 10))), .ex (.meth 20 (.idx (.var 3) (.var 10)) [.var 15, .var 19]),
  .ex (.meth 20 (.var 11) [.bin .Mult (.lit (.str ⟨#[32]⟩)) (.bin .Sub (.idx (.var 6) (.var 10)) (.lit (.int 1))), .idx abc (.var 10)]), .asg 10 (.bin .Sub (.call 3 [.var 19]) (.lit (.int 1))), .ifs (.cmp1 .Lt (.var 10) (.neg (.lit (.int 1)))) [retX] []]
noncomputable def GoodS (N : Nat → Nat) (E : List Nat) : Prop := ∃ E', Good N E' ∧ ∀ x, x ∈ E' ↔ x ∈ E
structure Wk (Y : Nat → Nat → Nat) (g : Nat → Nat) (E : List Nat) (R : List Key) (r s : Nat) (w : List Nat) (a : Nat) (σ : Vars) (st : Store) : Prop where
  wt : Wt g E r σ
  ws : Ws Y g R r w st
  at_ : σ.get 10 = some (cD a)
  a5 : a ≤ 5
  nd : w.Nodup
  w5 : ∀ x ∈ w, x < 5
  ch : Ch (nx (ldY Y) g) (s + 1) w a
  nE : ∀ x ∈ w, x ∉ E
  gd : GoodS (nx (ldY Y) g) E
theorem half_ok (hY : Ys Y) (hy : ∀ k j, Y k j < 125) (hj : j < 5) (W : Wt g E r σ) (H : Ws Y g R r w st) (h10 : σ.get 10 = some (.int j)) (nd : w.Nodup) (w5 : ∀ x ∈ w, x < 5) (ch : Ch (nx (ldY Y) g) (s + 1) w (j + 1)) (nE : ∀ x ∈ w, x ∉ E) (gd : GoodS (nx (ldY Y) g) E) (hw : j ∉ w) (hE : j ∉ E) :
    ∃ σ' st', run F2 79 σ st [.asgT [15, 19] (.accPop (.idx (.var 3) (.var 10))), .ex (.meth 20 (.idx (.var 3) (.var 10)) [.var 15, .var 19]),
      .ex (.meth 20 (.var 11) [.bin .Mult (.lit (.str ⟨#[32]⟩)) (.bin .Sub (.idx (.var 6) (.var 10)) (.lit (.int 1))), .idx abc (.var 10)]), .asg 10 (.bin .Sub (.call 3 [.var 19]) (.lit (.int 1))), .ifs (.cmp1 .Lt (.var 10) (.neg (.lit (.int 1)))) [retX] []] = some (.next, σ', st') ∧
      Wk Y g E R r s (w ++ [j]) (nx (ldY Y) g j) σ' st' := by
  have g4 := H.lt j hj
  have pj := H.p j hj
  have r6 := H.r6
  have hw4 : w.length ≤ 5 := nd.length_le_of_subset (l₂ := List.range 5) fun x hx => List.mem_range.mpr (w5 x hx)
  have l1 : j + 1 < st.length := (List.getElem?_eq_some_iff.mp pj).1
  have lr : r < st.length := (List.getElem?_eq_some_iff.mp H.sr).1
  generalize hs1 : st.set (j + 1) (.acc (pile Y j (4 - (g j + 1)))) = st1
  have x1 : exec1 F2 78 σ st (.asgT [15, 19] (.accPop (.idx (.var 3) (.var 10)))) = some (.next, (σ.set 15 (.str (S (List.replicate (g j) 32)))).set 19 (.str (aS (Y j (g j)))), st1) :=
    xr_asgT (hs1 ▸ pile_pop (g := g) (r_idx (r_var W.h3) (r_var h10) (ix_rf hj)) pj g4) rfl
  have W2 := (W.set (i := 15) (d := .str (S (List.replicate (g j) 32))) (by decide)).set (i := 19) (d := .str (aS (Y j (g j)))) (by decide)
  have a10 : ((σ.set 15 (.str (S (List.replicate (g j) 32)))).set 19 (.str (aS (Y j (g j))))).get 10 = some (.int j) := gset (by decide) (gset (by decide) h10)
  have a15 : ((σ.set 15 (.str (S (List.replicate (g j) 32)))).set 19 (.str (aS (Y j (g j))))).get 15 = some (.str (S (List.replicate (g j) 32))) := gset (by decide) gnew
  have p1 : st1[j + 1]? = some (.acc (pile Y j (4 - (g j + 1)))) := by rw [← hs1]; exact List.getElem?_set_self l1
  have back : st1.set (j + 1) (.acc (pile Y j (4 - (g j + 1)) ++ [ent Y j (g j)])) = st := by
    rw [← hs1, List.set_set, ← pile_top g4]; exact set_self pj
  have x2 := pushE_ok (n := 67) (r_idx (r_var W2.h3) (r_var a10) (ix_rf hj)) p1 (r_var a15) (r_var gnew) p1 (by rw [pile_len]; exact Nat.le_trans (Nat.sub_le _ _) (by decide))
  rw [back] at x2
  have sub : binP .Sub (.int ((g j + 1 : Nat) : Int)) (.int 1) = some (.int (g j)) := congrArg (fun i => some (D.int i)) (by show ((g j + 1 : Nat) : Int) - 1 = g j; lia)
  have x3 := pushE_ok (n := 66) (r_var W2.h11) H.sr (r_bin r_lit (r_bin (r_idx (r_var W2.h6) (r_var a10) (ix_5 (x := fun k => .int ((g k + 1 : Nat) : Int)) hj)) r_lit sub) (mul_rep (x := 32) (Nat.le_trans (Nat.le_of_lt g4) (by decide)))) (r_idx r_lit (r_var a10) (ix_abc hj)) H.sr (by rw [List.length_map]; exact Nat.le_trans hw4 (by decide))
  have x4 : exec1 F2 75 ((σ.set 15 (.str (S (List.replicate (g j) 32)))).set 19 (.str (aS (Y j (g j))))) (st.set r (.acc (w.map (prD g) ++ [prD g j]))) (.asg 10 (.bin .Sub (.call 3 [.var 19]) (.lit (.int 1)))) = some (.next, ((σ.set 15 (.str (S (List.replicate (g j) 32)))).set 19 (.str (aS (Y j (g j))))).set 10 (cD (nx (ldY Y) g j)), st.set r (.acc (w.map (prD g) ++ [prD g j]))) :=
    xr_asg (r_bin (r_call (rs_cons (r_var gnew) rs_nil) (leads_ok (hy _ _))) r_lit (sub1 _))
  have lt : ∀ a, cmpP (st.set r (.acc (w.map (prD g) ++ [prD g j]))) .Lt (cD a) (.int (-1)) = some false := fun a => by
    cases a with
    | zero => rfl
    | succ i => exact congrArg some (decide_eq_false (by lia))
  refine ⟨_, _, n_go x1 (n_go x2 (n_go x3 (n_go x4 (n_go (xr_ifF (tr_cmp1 (r_var gnew) (r_neg r_lit) (lt _)) n_nil) n_nil)))), W2.set (by decide), ⟨?_, fun i hi => ?_, ?_, ?_, r6, H.lt, H.gk, H.ln⟩, gnew, hY.le _ _, ?_, ?_, ch_app.mpr ⟨j + 1, ch, rfl, rfl⟩, ?_, gd⟩
  · rw [List.getElem?_set_ne (by lia)]; exact H.t
  · rw [List.getElem?_set_ne (by lia)]; exact H.p i hi
  · rw [List.getElem?_set_ne (by lia)]; exact H.s6
  · rw [List.getElem?_set_self lr, List.map_append]; rfl
  · exact List.nodup_append.mpr ⟨nd, List.nodup_cons.mpr ⟨fun q => (nomatch q), List.nodup_nil⟩, fun x hx y hy e => hw (by rw [List.mem_singleton.mp hy] at e; exact e ▸ hx)⟩
  · exact fun x hx => (List.mem_append.mp hx).elim (w5 x) fun q => by rw [List.mem_singleton.mp q]; exact hj
  · exact fun x hx => (List.mem_append.mp hx).elim (nE x) fun q => by rw [List.mem_singleton.mp q]; exact hE
end
end Mine.Internal
end
section
open PySem PySem.W PySem.Calls PyProof.Rows PySem.Builtin PySem.Builtin.Str PySem.StrLaws
set_option Elab.async false
set_option linter.unusedVariables false
set_option maxRecDepth 100000
namespace Mine.Internal
theorem goodS_congr {N M : Nat → Nat} {E : List Nat} (e : ∀ k ∈ E, N k = M k) : GoodS N E → GoodS M E := fun ⟨E', h, q⟩ => ⟨E', good_congr (fun k hk => e k ((q k).mp hk)) h, q⟩
theorem goodS_dead {N : Nat → Nat} {E c : List Nat} (hc : Cyc N c) : GoodS N E → ∀ x ∈ c, x ∉ E := fun ⟨E', h, q⟩ x hx hE => good_dead hc h x hx ((q x).mpr hE)
theorem goodS_way {N : Nat → Nat} {E w : List Nat} {b a : Nat} (hw : Ch N b w a) (ha : a = 0 ∨ ∃ j ∈ E, a = j + 1) : GoodS N E → GoodS N (E ++ w) := fun ⟨E', h, q⟩ =>
  ⟨w ++ E', (good_way h hw (ha.imp id fun ⟨j, hj, e⟩ => ⟨j, (q j).mpr hj, e⟩)).1, fun x => by rw [List.mem_append, List.mem_append, q x]; exact Or.comm⟩
section
variable {Y : Nat → Nat → Nat} {g : Nat → Nat} {E w : List Nat} {R : List Key} {n r j k s a : Nat} {σ : Vars} {st : Store}
theorem Wk.set {d : D} (h : Wk Y g E R r s w a σ st) : Wk Y g E R r s w a (σ.set 12 d) st := ⟨h.wt.set (by decide), h.ws, gset (by decide) h.at_, h.a5, h.nd, h.w5, h.ch, h.nE, h.gd⟩
theorem step_ok (hY : Ys Y) (hy : ∀ k j, Y k j < 125) (H : Wk Y g E R r s w a σ st) (ha : ¬ (a = 0 ∨ ∃ j ∈ E, a = j + 1)) :
    ∃ σ' st' ks g' w' a', run F2 82 σ st wB = some (.next, σ', st') ∧ Wk Y g' E (R ++ ks) r s w' a' σ' st' ∧ Pops (ldY Y) lab g ks g' ∧ sum5 g' + w'.length = sum5 g + w.length + 1 := by
  refine nng fun nG => ?_
  obtain ⟨b, hb, hi⟩ := tm_ok (n := 73) (st := st) H.a5 H.at_ H.wt.h8
  refine nG ?_
  clear nG
  cases b with
  | true => exact absurd (hi.mp rfl) ha
  | false =>
    cases a with
    | zero => exact absurd (.inl rfl) ha
    | succ j =>
      have hj : j < 5 := H.a5
      have hE : j ∉ E := fun q => ha (.inr ⟨j, q, rfl⟩)
      have hw4 : w.length ≤ 5 := H.nd.length_le_of_subset (l₂ := List.range 5) fun x hx => List.mem_range.mpr (H.w5 x hx)
      have x0 : exec1 F2 81 σ st (.ifs tmC [.brk] []) = some (.next, σ, st) := xr_ifF hb n_nil
      have x1 : exec1 F2 80 σ st (.asg 13 (.accStr (.var 11))) = some (.next, σ.set 13 (.str (S (wt g w))), st) := xr_asg (r_str (r_var H.wt.h11) H.ws.sr (tab_of H.ws.t) (str_way (fun c hc => H.ws.lt c (H.w5 c hc)) hw4))
      have W1 := H.wt.set (i := 13) (d := .str (S (wt g w))) (by decide)
      have a10 : (σ.set 13 (.str (S (wt g w)))).get 10 = some (.int j) := gset (by decide) H.at_
      have t2 : ∀ b, decide (97 + j ∈ wt g w) = b → evT F2 78 (σ.set 13 (.str (S (wt g w)))) st (.cmp1 .In (.idx abc (.var 10)) (.var 13)) = some (b, st) := fun b e => tr_cmp1 (r_idx r_lit (r_var a10) (ix_abc hj)) (r_var gnew) (e ▸ in_str)
      by_cases hjw : j ∈ w
      · refine nng fun nG => ?_
        obtain ⟨w1, w2, rfl⟩ := List.append_of_mem hjw
        obtain ⟨nd1, nd2, nd3⟩ := List.nodup_append.mp H.nd
        have dis : ∀ x ∈ w1, x ∉ j :: w2 := fun x hx hy => nd3 x hx x hy rfl
        obtain ⟨m, c1, c2⟩ := ch_app.mp H.ch
        refine nG ?_
        clear nG
        cases (show m = j + 1 from c2.1)
        have hc : Cyc (nx (ldY Y) g) (j :: w2) := ⟨nd2, j, w2, rfl, c2⟩
        refine nng fun nG => ?_
        obtain ⟨σ2, st2, x2, W2, b10, H2⟩ := ring_ok (n := 52) hY hj W1 H.ws a10 gnew H.nd H.w5 hc
        obtain ⟨σ3, st3, x3, H3⟩ := half_ok (s := s) hY hy hj W2 H2 b10 nd1 (fun x hx => H.w5 x (List.mem_append_left _ hx)) (ch_congr (fun k hk => congrArg (ldY Y k) (pop_out g (dis k hk)).symm) c1) (fun x hx => H.nE x (List.mem_append_left _ hx))
          (goodS_congr (fun k hk => congrArg (ldY Y k) (pop_out g fun q => H.nE k (List.mem_append_right _ q) hk).symm) H.gd) (fun q => dis j q (.head _)) hE
        refine nG ?_
        clear nG
        refine ⟨σ3, st3, [lab g (j :: w2)], _, _, _, n_go x0 (n_go x1 (n_go (xr_ifT (t2 true (decide_eq_true (wt_mem.mpr hjw))) x2) x3)), H3, pops_one hc, ?_⟩
        rw [sum_pop fun x hx => H.w5 x (List.mem_append_right _ hx), List.length_append, List.length_append]
        show sum5 g + (w2.length + 1) + (w1.length + 1) = sum5 g + (w1.length + (w2.length + 1)) + 1
        omega
      · obtain ⟨σ3, st3, x3, H3⟩ := half_ok (s := s) hY hy hj W1 H.ws a10 H.nd H.w5 H.ch H.nE H.gd hjw hE
        refine ⟨σ3, st3, [], g, _, _, n_go x0 (n_go x1 (n_go (xr_ifF (t2 false (decide_eq_false fun q => hjw (wt_mem.mp q))) n_nil) x3)), by rw [List.append_nil]; exact H3, rfl, ?_⟩
        rw [List.length_append]; rfl
theorem walk_ok (hY : Ys Y) (hy : ∀ k j, Y k j < 125) : ∀ (ds : List D) {g : Nat → Nat} {R : List Key} {w : List Nat} {a : Nat} {σ : Vars} {st : Store}, Wk Y g E R r s w a σ st → 21 ≤ sum5 g + w.length + ds.length →
    ∃ σ' st' ks g' w' a', forL (fun σ st => run F2 82 σ st wB) (.one 12) ds σ st = some (.next, σ', st') ∧ Wk Y g' E (R ++ ks) r s w' a' σ' st' ∧ Pops (ldY Y) lab g ks g' ∧ (a' = 0 ∨ ∃ j ∈ E, a' = j + 1)
  | [], g, R, w, a, σ, st, H, h => by
    have hw4 : w.length ≤ 5 := H.nd.length_le_of_subset (l₂ := List.range 5) fun x hx => List.mem_range.mpr (H.w5 x hx)
    have h15 := sum_le H.ws.lt
    have : 21 ≤ sum5 g + w.length + 0 := h
    omega
  | d :: ds, g, R, w, a, σ, st, H, h => by
    have H1 := H.set (d := d)
    by_cases ha : a = 0 ∨ ∃ j ∈ E, a = j + 1
    · refine nng fun nG => ?_
      obtain ⟨b, hb, hi⟩ := tm_ok (n := 73) (st := st) H1.a5 H1.at_ H1.wt.h8
      refine nG ?_
      clear nG
      rw [hi.mpr ha] at hb
      exact ⟨_, st, [], g, w, a, f_brk rfl (n_brk (xr_ifT hb (n_brk rfl))), by rw [List.append_nil]; exact H1, rfl, ha⟩
    · refine nng fun nG => ?_
      obtain ⟨σ1, st1, ks, g1, w1, a1, x, H2, P, e⟩ := step_ok hY hy H1 ha
      obtain ⟨σ2, st2, ks2, g2, w2, a2, x2, H3, P2, e2⟩ := walk_ok hY hy ds H2 (by have : 21 ≤ sum5 g + w.length + (ds.length + 1) := h; omega)
      refine nG ?_
      clear nG
      rw [List.append_assoc] at H3
      exact ⟨σ2, st2, ks ++ ks2, g2, w2, a2, f_cons rfl x x2, H3, pops_app P P2, e2⟩
end
end Mine.Internal
end
section
open PySem PySem.W PySem.Calls PyProof.Rows PySem.Builtin PySem.Builtin.Str PySem.StrLaws
set_option Elab.async false
set_option linter.unusedVariables false
set_option maxRecDepth 100000
namespace Mine.Internal
section
variable {Y : Nat → Nat → Nat} {g : Nat → Nat} {E w : List Nat} {R : List Key} {n r j k s a : Nat} {σ : Vars} {st : Store}
noncomputable abbrev stB : List PS := [.asg 10 (.var 9), .asg 11 .acc0, .for1 (.one 12) (.fn .range1 [.lit (.int 21)]) wB, .asg 8 (.bin .Add (.var 8) (.repl (.accStr (.var 11)) ⟨#[32]⟩ ⟨#[]⟩))]
structure Wo (Y : Nat → Nat → Nat) (g : Nat → Nat) (E : List Nat) (R : List Key) (σ : Vars) (st : Store) : Prop where
  h3 : σ.get 3 = some rfD
  h6 : σ.get 6 = some (dtD g)
  h7 : σ.get 7 = some (.ref 6)
  h8 : σ.get 8 = some (.str (S (E.map (97 + ·))))
  t : st[0]? = some .tab
  p : Pl Y g st
  s6 : st[6]? = some (.ml (R.map decB))
  lt : ∀ k, k < 5 → g k < 4
  gk : ∀ r ∈ R, Gk r
  ln : R.length ≤ sum5 g
  gd : GoodS (nx (ldY Y) g) E
  nd : E.Nodup
  e5 : ∀ x ∈ E, x < 5
theorem start_ok (hY : Ys Y) (hy : ∀ k j, Y k j < 125) (hs : s < 5) (H : Wo Y g E R σ st) : ∃ σ' st' ks g' w, run F2 86 (σ.set 9 (.int s)) st stB = some (.next, σ', st') ∧ Wo Y g' (E ++ w) (R ++ ks) σ' st' ∧ Pops (ldY Y) lab g ks g' ∧ s ∈ E ++ w := by
  have old : ∀ {i : Nat} {m : MO}, st[i]? = some m → (st ++ [.acc []])[i]? = some m := fun {i m} e => (List.getElem?_append_left (List.getElem?_eq_some_iff.mp e).1).trans e
  have l6 : 6 < st.length := (List.getElem?_eq_some_iff.mp H.s6).1
  have W0 : Wk Y g E R st.length s [] (s + 1) (((σ.set 9 (.int s)).set 10 (.int s)).set 11 (.ref st.length)) (st ++ [.acc []]) := by
    refine ⟨⟨?_, ?_, ?_, ?_, gnew⟩, ⟨old H.t, fun k hk => old (H.p k hk), old H.s6, by rw [List.getElem?_append_right (Nat.le_refl _), Nat.sub_self]; rfl, l6, H.lt, H.gk, H.ln⟩, gset (by decide) gnew, hs, .nil, fun _ q => (nomatch q), rfl, fun _ q => (nomatch q), H.gd⟩
    · exact gset (by decide) (gset (by decide) (gset (by decide) H.h3))
    · exact gset (by decide) (gset (by decide) (gset (by decide) H.h6))
    · exact gset (by decide) (gset (by decide) (gset (by decide) H.h7))
    · exact gset (by decide) (gset (by decide) (gset (by decide) H.h8))
  refine nng fun nG => ?_
  obtain ⟨σ1, st1, ks, g1, w, a, x, H1, P, e⟩ := walk_ok hY hy [.int 0, .int 1, .int 2, .int 3, .int 4, .int 5, .int 6, .int 7, .int 8, .int 9, .int 10, .int 11, .int 12, .int 13, .int 14, .int 15, .int 16, .int 17, .int 18, .int 19, .int 20] W0 (Nat.le_add_left _ _)
  refine nG ?_
  clear nG
  have hw4 : w.length ≤ 5 := H1.nd.length_le_of_subset (l₂ := List.range 5) fun x hx => List.mem_range.mpr (H1.w5 x hx)
  have hE4 : E.length ≤ 5 := H.nd.length_le_of_subset (l₂ := List.range 5) fun x hx => List.mem_range.mpr (H.e5 x hx)
  have hw3 : ∀ c ∈ w, g1 c < 4 := fun c hc => H1.ws.lt c (H1.w5 c hc)
  have hr : replP (.str (S (wt g1 w))) ⟨#[32]⟩ ⟨#[]⟩ = some (.str (S (w.map (97 + ·)))) := by
    refine (if_pos ?_).trans (congrArg (fun s => some (D.str s)) ((repl_blank _).trans (congrArg S (wt_filt w))))
    rw [S_len, Nat.ble_eq_true_of_le (Nat.le_trans (wt_len w hw3) (Nat.le_trans (Nat.mul_le_mul_left 4 hw4) (by decide)))]
    decide
  have ha : binP .Add (.str (S (E.map (97 + ·)))) (.str (S (w.map (97 + ·)))) = some (.str (S ((E ++ w).map (97 + ·)))) := by
    rw [List.map_append]
    exact addS (by rw [List.length_map, List.length_map]; exact Nat.le_trans (Nat.add_le_add hE4 hw4) (by decide))
  have x4 : exec1 F2 82 σ1 st1 (.asg 8 (.bin .Add (.var 8) (.repl (.accStr (.var 11)) ⟨#[32]⟩ ⟨#[]⟩))) = some (.next, σ1.set 8 (.str (S ((E ++ w).map (97 + ·)))), st1) :=
    xr_asg (r_bin (r_var H1.wt.h8) (r_repl (r_str (r_var H1.wt.h11) H1.ws.sr (tab_of H1.ws.t) (str_way hw3 hw4)) hr) ha)
  refine ⟨_, st1, ks, g1, w, n_go (xr_asg (r_var gnew)) (n_go (xr_asg r_acc0) (n_go (xr_for (r_fn (rs_cons r_lit rs_nil) rfl) rfl (by decide : 21 ≤ 1048576) x) (n_go x4 n_nil))),
    ⟨gset (by decide) H1.wt.h3, gset (by decide) H1.wt.h6, gset (by decide) H1.wt.h7, gnew, H1.ws.t, H1.ws.p, H1.ws.s6, H1.ws.lt, H1.ws.gk, H1.ws.ln, goodS_way H1.ch e H1.gd, ?_, ?_⟩, P, ?_⟩
  · exact List.nodup_append.mpr ⟨H.nd, H1.nd, fun x hx y hy e => H1.nE y hy (e ▸ hx)⟩
  · exact fun x hx => (List.mem_append.mp hx).elim (H.e5 x) (H1.w5 x)
  · have c := H1.ch
    revert c
    cases w with
    | nil => exact fun c => e.elim (fun q => nomatch ((show s + 1 = a from c).trans q)) fun ⟨j, hj, q⟩ => List.mem_append_left _ (by cases Nat.succ.inj ((show s + 1 = a from c).trans q); exact hj)
    | cons k w => exact fun c => List.mem_append_right _ (by cases Nat.succ.inj c.1; exact .head _)
end
end Mine.Internal
end
section
open PySem PySem.W PySem.Calls PyProof.Rows PySem.Builtin PySem.Builtin.Str PySem.StrLaws
set_option Elab.async false
set_option linter.unusedVariables false
set_option maxRecDepth 100000
namespace Mine.Internal
section
variable {Y : Nat → Nat → Nat} {g : Nat → Nat} {k : Nat} {σ : Vars} {st : Store}
noncomputable abbrev puS : PS := .ex (.meth 20 (.idx (.var 3) (.var 4)) [.bin .Mult (.lit (.str ⟨#[32]⟩)) (.var 5), .idx (.idx (.var 0) (.var 4)) (.var 5)])
theorem put_ok {j : Nat} {l : List D} {n : Nat} (hk : k < 5) (hj : j < 4) (hl : l.length ≤ 5) (h0 : σ.get 0 = some (dL5 (rowD Y))) (h3 : σ.get 3 = some rfD) (h4 : σ.get 4 = some (.int k)) (hs : st[k + 1]? = some (.acc l)) : run F2 (n + 11) (σ.set 5 (.int j)) st [puS] = some (.next, σ.set 5 (.int j), st.set (k + 1) (.acc (l ++ [ent Y k j]))) := by
  have hr : ∀ {st : Store}, idxP st (rowD Y k) (.int j) = some (.str (aS (Y k j))) := fun {st} => by
    match j, hj with
    | 0, _ => rfl
    | 1, _ => rfl
    | 2, _ => rfl
    | 3, _ => rfl
  exact n_go (pushE_ok (r_idx (r_var (gset (by decide) h3)) (r_var (gset (by decide) h4)) (ix_rf hk)) hs (r_bin r_lit (r_var gnew) (mul_rep (x := 32) (Nat.le_trans (Nat.le_of_lt hj) (by decide)))) (r_idx (r_idx (r_var (gset (by decide) h0)) (r_var (gset (by decide) h4)) (ix_5 (x := rowD Y) hk)) (r_var gnew) hr) hs (Nat.le_trans hl (by decide))) n_nil
theorem fill_ok {n : Nat} (hk : k < 5) (h0 : σ.get 0 = some (dL5 (rowD Y))) (h3 : σ.get 3 = some rfD) (h4 : σ.get 4 = some (.int k)) (hs : st[k + 1]? = some (.acc [])) : run F2 (n + 15) σ st [.for1 (.one 5) (.tup [.lit (.int 3), .lit (.int 2), .lit (.int 1), .lit (.int 0)]) [puS]] = some (.next, (((σ.set 5 (.int 3)).set 5 (.int 2)).set 5 (.int 1)).set 5 (.int 0), st.set (k + 1) (.acc (pile Y k 4))) := by
  have l : k + 1 < st.length := (List.getElem?_eq_some_iff.mp hs).1
  have W : ∀ {σ : Vars} {d : D}, (σ.get 0 = some (dL5 (rowD Y)) ∧ σ.get 3 = some rfD ∧ σ.get 4 = some (.int k)) → (σ.set 5 d).get 0 = some (dL5 (rowD Y)) ∧ (σ.set 5 d).get 3 = some rfD ∧ (σ.set 5 d).get 4 = some (.int k) := fun h => ⟨gset (by decide) h.1, gset (by decide) h.2.1, gset (by decide) h.2.2⟩
  have w1 := W (d := .int 3) ⟨h0, h3, h4⟩
  have w2 := W (d := .int 2) w1
  have w3 := W (d := .int 1) w2
  have e1 := put_ok (n := n + 1) (j := 3) (Y := Y) hk (by decide) (Nat.zero_le _) h0 h3 h4 hs
  have e2 := put_ok (n := n + 1) (j := 2) (Y := Y) (l := pile Y k 1) hk (by decide) (by show 1 ≤ 5; decide) w1.1 w1.2.1 w1.2.2 (List.getElem?_set_self l : (st.set (k + 1) (.acc (pile Y k 1)))[k + 1]? = _)
  rw [List.set_set] at e2
  have e3 := put_ok (n := n + 1) (j := 1) (Y := Y) (l := pile Y k 2) hk (by decide) (by show 2 ≤ 5; decide) w2.1 w2.2.1 w2.2.2 (List.getElem?_set_self l : (st.set (k + 1) (.acc (pile Y k 2)))[k + 1]? = _)
  rw [List.set_set] at e3
  have e4 := put_ok (n := n + 1) (j := 0) (Y := Y) (l := pile Y k 3) hk (by decide) (by show 3 ≤ 5; decide) w3.1 w3.2.1 w3.2.2 (List.getElem?_set_self l : (st.set (k + 1) (.acc (pile Y k 3)))[k + 1]? = _)
  rw [List.set_set] at e4
  exact n_go (xr_for (ds := [.int 3, .int 2, .int 1, .int 0]) (r_tup (rs_cons r_lit (rs_cons r_lit (rs_cons r_lit (rs_cons r_lit rs_nil))))) rfl (by show 4 ≤ 1048576; decide) (f_cons rfl e1 (f_cons rfl e2 (f_cons rfl e3 (f_cons rfl e4 f_nil))))) n_nil
theorem walks_ok (hY : Ys Y) (hy : ∀ k j, Y k j < 125) {o : Nat → Nat} (ho : ∀ i, i < 5 → o i < 5) (hall : ∀ x, x < 5 → ∃ i, i < 5 ∧ o i = x) : ∃ g ks st', callF F2 94 7 [dL5 (rowD Y), dL5 fun i => .int (o i)] [.tab] = some (.tup [rgD ks, rfD], st') ∧ Pops (ldY Y) lab (fun _ => 0) ks g ∧ Still (ldY Y) g ∧ Pl Y g st' ∧ (∀ k, k < 5 → g k < 4) ∧ st'[0]? = some .tab := by
  have H0 : Wo Y (fun _ => 0) [] [] [(0, dL5 (rowD Y)), (1, dL5 fun i => .int (o i)), (3, rfD), (4, .int 4), (5, .int 0), (6, dtD fun _ => 0), (7, .ref 6), (8, .str ⟨#[]⟩)]
      [.tab, .acc (pile Y 0 4), .acc (pile Y 1 4), .acc (pile Y 2 4), .acc (pile Y 3 4), .acc (pile Y 4 4), .ml []] :=
    ⟨rfl, rfl, rfl, rfl, rfl, fun k hk => five (P := fun k => ([.tab, .acc (pile Y 0 4), .acc (pile Y 1 4), .acc (pile Y 2 4), .acc (pile Y 3 4), .acc (pile Y 4 4), .ml []] : Store)[k + 1]? = some (.acc (pile Y k 4))) rfl rfl rfl rfl rfl hk, rfl, fun _ _ => by decide, fun _ q => (nomatch q), Nat.zero_le _, ⟨[], trivial, fun _ => Iff.rfl⟩, .nil, fun _ q => (nomatch q)⟩
  refine nng fun nG => ?_
  obtain ⟨σ1, t1, k1, g1, w1, x1, H1, P1, m1⟩ := start_ok hY hy (ho 0 (by decide)) H0
  obtain ⟨σ2, t2, k2, g2, w2, x2, H2, P2, m2⟩ := start_ok hY hy (ho 1 (by decide)) H1
  obtain ⟨σ3, t3, k3, g3, w3, x3, H3, P3, m3⟩ := start_ok hY hy (ho 2 (by decide)) H2
  obtain ⟨σ4, t4, k4, g4, w4, x4, H4, P4, m4⟩ := start_ok hY hy (ho 3 (by decide)) H3
  obtain ⟨σ5, t5, k5, g5, w5, x5, H5, P5, m5⟩ := start_ok hY hy (ho 4 (by decide)) H4
  refine nG ?_
  clear nG
  have mem : ∀ i, i < 5 → o i ∈ [] ++ w1 ++ w2 ++ w3 ++ w4 ++ w5 := fun i hi => five (P := fun i => o i ∈ [] ++ w1 ++ w2 ++ w3 ++ w4 ++ w5)
    (List.mem_append_left _ (List.mem_append_left _ (List.mem_append_left _ (List.mem_append_left _ m1)))) (List.mem_append_left _ (List.mem_append_left _ (List.mem_append_left _ m2))) (List.mem_append_left _ (List.mem_append_left _ m3)) (List.mem_append_left _ m4) m5 hi
  refine ⟨g5, [] ++ k1 ++ k2 ++ k3 ++ k4 ++ k5, t5, ?_, pops_app (pops_app (pops_app (pops_app P1 P2) P3) P4) P5, fun c hc => ?_, H5.p, H5.lt, H5.t⟩
  · have f0 : run F2 90 [(0, dL5 (rowD Y)), (1, dL5 fun i => .int (o i)), (3, rfD), (4, .int 0)] [.tab, .acc [], .acc [], .acc [], .acc [], .acc []] [.for1 (.one 5) (.tup [.lit (.int 3), .lit (.int 2), .lit (.int 1), .lit (.int 0)]) [puS]] = some (.next, [(0, dL5 (rowD Y)), (1, dL5 fun i => .int (o i)), (3, rfD), (4, .int 0), (5, .int 0)], [.tab, .acc (pile Y 0 4), .acc [], .acc [], .acc [], .acc []]) := fill_ok (n := 75) (k := 0) (Y := Y) (by decide) rfl rfl rfl rfl
    have f1 : run F2 90 [(0, dL5 (rowD Y)), (1, dL5 fun i => .int (o i)), (3, rfD), (4, .int 1), (5, .int 0)] [.tab, .acc (pile Y 0 4), .acc [], .acc [], .acc [], .acc []] [.for1 (.one 5) (.tup [.lit (.int 3), .lit (.int 2), .lit (.int 1), .lit (.int 0)]) [puS]] = some (.next, [(0, dL5 (rowD Y)), (1, dL5 fun i => .int (o i)), (3, rfD), (4, .int 1), (5, .int 0)], [.tab, .acc (pile Y 0 4), .acc (pile Y 1 4), .acc [], .acc [], .acc []]) := fill_ok (n := 75) (k := 1) (Y := Y) (by decide) rfl rfl rfl rfl
    have f2 : run F2 90 [(0, dL5 (rowD Y)), (1, dL5 fun i => .int (o i)), (3, rfD), (4, .int 2), (5, .int 0)] [.tab, .acc (pile Y 0 4), .acc (pile Y 1 4), .acc [], .acc [], .acc []] [.for1 (.one 5) (.tup [.lit (.int 3), .lit (.int 2), .lit (.int 1), .lit (.int 0)]) [puS]] = some (.next, [(0, dL5 (rowD Y)), (1, dL5 fun i => .int (o i)), (3, rfD), (4, .int 2), (5, .int 0)], [.tab, .acc (pile Y 0 4), .acc (pile Y 1 4), .acc (pile Y 2 4), .acc [], .acc []]) := fill_ok (n := 75) (k := 2) (Y := Y) (by decide) rfl rfl rfl rfl
    have f3 : run F2 90 [(0, dL5 (rowD Y)), (1, dL5 fun i => .int (o i)), (3, rfD), (4, .int 3), (5, .int 0)] [.tab, .acc (pile Y 0 4), .acc (pile Y 1 4), .acc (pile Y 2 4), .acc [], .acc []] [.for1 (.one 5) (.tup [.lit (.int 3), .lit (.int 2), .lit (.int 1), .lit (.int 0)]) [puS]] = some (.next, [(0, dL5 (rowD Y)), (1, dL5 fun i => .int (o i)), (3, rfD), (4, .int 3), (5, .int 0)], [.tab, .acc (pile Y 0 4), .acc (pile Y 1 4), .acc (pile Y 2 4), .acc (pile Y 3 4), .acc []]) := fill_ok (n := 75) (k := 3) (Y := Y) (by decide) rfl rfl rfl rfl
    have f4 : run F2 90 [(0, dL5 (rowD Y)), (1, dL5 fun i => .int (o i)), (3, rfD), (4, .int 4), (5, .int 0)] [.tab, .acc (pile Y 0 4), .acc (pile Y 1 4), .acc (pile Y 2 4), .acc (pile Y 3 4), .acc []] [.for1 (.one 5) (.tup [.lit (.int 3), .lit (.int 2), .lit (.int 1), .lit (.int 0)]) [puS]] = some (.next, [(0, dL5 (rowD Y)), (1, dL5 fun i => .int (o i)), (3, rfD), (4, .int 4), (5, .int 0)], [.tab, .acc (pile Y 0 4), .acc (pile Y 1 4), .acc (pile Y 2 4), .acc (pile Y 3 4), .acc (pile Y 4 4)]) := fill_ok (n := 75) (k := 4) (Y := Y) (by decide) rfl rfl rfl rfl
    refine c_open (σ₁ := σ5) rfl rfl rfl (n_go (s1 := [.tab, .acc [], .acc [], .acc [], .acc [], .acc []]) (xr_asg (r_comp (es := [.ref 1, .ref 2, .ref 3, .ref 4, .ref 5]) (r_var rfl) rfl (by show 5 < 1048576; decide) (m_cons rfl r_acc0 (m_cons rfl r_acc0 (m_cons rfl r_acc0 (m_cons rfl r_acc0 (m_cons rfl r_acc0 m_nil))))))) (n_go (σ₁ := [(0, dL5 (rowD Y)), (1, dL5 fun i => .int (o i)), (3, rfD), (4, .int 4), (5, .int 0)]) (s1 := [.tab, .acc (pile Y 0 4), .acc (pile Y 1 4), .acc (pile Y 2 4), .acc (pile Y 3 4), .acc (pile Y 4 4)]) (xr_for r_rng5 rfl (by decide : 5 ≤ 1048576)
      (f_cons rfl f0 (f_cons rfl f1 (f_cons rfl f2 (f_cons rfl f3 (f_cons rfl f4 f_nil)))))) ?_))
    refine n_go (xr_asg (r_lst (rs_cons r_lit (rs_cons r_lit (rs_cons r_lit (rs_cons r_lit (rs_cons r_lit rs_nil))))))) (n_go (xr_asgM (r_lst rs_nil)) (n_go (xr_asg r_lit) (n_go (xr_for (ds := [.int (o 0), .int (o 1), .int (o 2), .int (o 3), .int (o 4)]) (r_var rfl) rfl (by show 5 ≤ 1048576; decide) (f_cons rfl x1 (f_cons rfl x2 (f_cons rfl x3 (f_cons rfl x4 (f_cons rfl x5 f_nil))))))
      (n_ret (xr_ret (r_tup (rs_cons (r_fn (rs_cons (r_var H5.h7) rs_nil) (sort_rings (asl H5.s6) H5.gk ?_)) (rs_cons (r_var H5.h3) rs_nil))))))))
    exact Nat.lt_of_le_of_lt (Nat.le_trans H5.ln (sum_le H5.lt)) (by decide)
  · obtain ⟨k, t, e, _⟩ := hc.ch
    have hk : k ∈ c := e ▸ .head _
    obtain ⟨i, hi, q⟩ := hall k (cyc_lt hY.le hc k hk)
    exact goodS_dead hc H5.gd k hk (q ▸ mem i hi)
end
end Mine.Internal
end
section
open PySem PySem.W PySem.Calls PyProof.Rows PySem.Builtin PySem.Builtin.Str PySem.StrLaws
set_option Elab.async false
set_option linter.unusedVariables false
set_option maxRecDepth 100000
namespace Mine.Internal
theorem ints_map : ∀ ns : List Int, intsOf (ns.map .int) = some ns
  | [] => rfl
  | _ :: r => bd rfl (mp (ints_map r))
noncomputable def ord (T : Int) (k : Nat) : Nat := ((T % 5).toNat + (1 + (T / 5 % 4).toNat) * k) % 5
theorem ord_t : ∀ a < 5, ∀ m < 4, ∀ x < 5, ∃ k, k < 5 ∧ (a + (1 + m) * k) % 5 = x := by
  have : ∀ a < 5, ∀ m < 4, ∀ x < 5, (List.range 5).any (fun k => (a + (1 + m) * k) % 5 == x) = true := by decide +kernel
  intro a ha m hm x hx
  obtain ⟨k, hk, e⟩ := List.any_eq_true.mp (this a ha m hm x hx)
  exact ⟨k, List.mem_range.mp hk, eq_of_beq e⟩
theorem ord_all (T : Int) (x : Nat) (hx : x < 5) : ∃ i, i < 5 ∧ ord T i = x := ord_t _ (by lia) _ (by lia) x hx
section
variable {Y : Nat → Nat → Nat} {g : Nat → Nat} {n k : Nat} {σ : Vars} {st : Store} {ns : List Int} {T : Int}
noncomputable abbrev orE : PE := .bin .Mod (.bin .Add (.var 2) (.bin .Mult (.bin .Add (.lit (.int 1)) (.bin .Mod (.bin .FloorDiv (.var 2) (.lit (.int 5))) (.lit (.int 4)))) (.var 3))) (.lit (.int 5))
theorem or_ord (hk : k < 5) (h2 : σ.get 2 = some (.int T)) (h3 : σ.get 3 = some (.int k)) : ev F2 (n + 9) σ st orE = some (.int (ord T k), st) := by
  have e1 : ev F2 (n + 5) σ st (.bin .Mod (.bin .FloorDiv (.var 2) (.lit (.int 5))) (.lit (.int 4))) = some (.int ((T / 5 % 4).toNat : Nat), st) := by
    refine r_bin (r_bin (r_var h2) r_lit (d := .int (T / 5)) ?_) r_lit ?_
    · exact congrArg (fun i => some (D.int i)) (Int.fdiv_eq_ediv_of_nonneg _ (by decide))
    · refine congrArg (fun i => some (D.int i)) ?_
      rw [Int.fmod_eq_emod_of_nonneg _ (by decide), Int.toNat_of_nonneg (Int.emod_nonneg _ (by decide))]
  have hm : (T / 5 % 4).toNat < 4 := by lia
  generalize hq : (T / 5 % 4).toNat = m at e1 hm
  have e2 : ev F2 (n + 6) σ st (.bin .Add (.lit (.int 1)) (.bin .Mod (.bin .FloorDiv (.var 2) (.lit (.int 5))) (.lit (.int 4)))) = some (.int ((1 + m : Nat) : Int), st) := r_bin r_lit e1 rfl
  have e3 : binP .Mult (.int ((1 + m : Nat) : Int)) (.int (k : Int)) = some (.int (((1 + m) * k : Nat) : Int)) := by
    show orP (if ((1 + m : Nat) : Int).natAbs < 2 ^ 60 ∧ ((k : Nat) : Int).natAbs < 2 ^ 60 then some (D.int (((1 + m : Nat) : Int) * (k : Int))) else none) _ = _
    rw [if_pos ⟨by show 1 + m < _; lia, by show k < _; lia⟩]; rfl
  refine r_bin (r_bin (r_var h2) (r_bin e2 (r_var h3) e3) rfl) r_lit ?_
  refine congrArg (fun i => some (D.int i)) ?_
  unfold ord
  rw [hq]
  generalize (1 + m) * k = c
  rw [Int.fmod_eq_emod_of_nonneg _ (by decide)]
  show (T + (c : Int)) % 5 = _
  lia
noncomputable abbrev lfE : PE := .tup [.bin .Mult (.lit (.str ⟨#[32]⟩)) (.var 10), .idx (.idx (.var 1) (.var 9)) (.var 10)]
theorem lf_ok {j : Nat} (hk : k < 5) (hj : j < 4) (h1 : σ.get 1 = some (dL5 (rowD Y))) (h9 : σ.get 9 = some (.int k)) : ev F2 (n + 6) (σ.set 10 (.int j)) st lfE = some (ent Y k j, st) := by
  have hr : ∀ {st : Store}, idxP st (rowD Y k) (.int j) = some (.str (aS (Y k j))) := fun {st} => by
    match j, hj with
    | 0, _ => rfl
    | 1, _ => rfl
    | 2, _ => rfl
    | 3, _ => rfl
  exact r_tup (rs_cons (r_bin r_lit (r_var gnew) (mul_rep (x := 32) (Nat.le_trans (Nat.le_of_lt hj) (by decide)))) (rs_cons (r_idx (r_idx (r_var (gset (i := 10) (by decide) h1)) (r_var (gset (i := 10) (by decide) h9)) (ix_5 (x := rowD Y) hk)) (r_var gnew) hr) rs_nil))
theorem left_ok (hk : k < 5) (hg : g k < 4) (h1 : σ.get 1 = some (dL5 (rowD Y))) (h7 : σ.get 7 = some (.lst (nL g))) (h9 : σ.get 9 = some (.int k)) : ev F2 (n + 8) σ st (.comp lfE (.one 10) (.fn .range3 [.lit (.int 3), .bin .Sub (.idx (.var 7) (.var 9)) (.lit (.int 1)), .neg (.lit (.int 1))]) none) = some (.lst (pile Y k (4 - g k)), st) := by
  have e : ev F2 (n + 4) σ st (.bin .Sub (.idx (.var 7) (.var 9)) (.lit (.int 1))) = some (.int ((g k : Int) - 1), st) := r_bin (r_idx (r_var h7) (r_var h9) (ix_5 (x := fun k => .int (g k)) hk)) r_lit rfl
  have el : ∀ j, j < 4 → ev F2 (n + 7) (σ.set 10 (.int (j : Nat))) st lfE = some (ent Y k j, st) := fun j hj => lf_ok hk hj h1 h9
  have e0 := el 0 (by decide)
  have e1 := el 1 (by decide)
  have e2 := el 2 (by decide)
  have e3 := el 3 (by decide)
  generalize g k = m at hg e
  match m, hg with
  | 0, _ => exact r_comp (ds := [.int 3, .int 2, .int 1, .int 0]) (r_fn (rs_cons r_lit (rs_cons e (rs_cons (r_neg r_lit) rs_nil))) rfl) rfl (by show 4 < 1048576; decide) (m_cons rfl e3 (m_cons rfl e2 (m_cons rfl e1 (m_cons rfl e0 m_nil))))
  | 1, _ => exact r_comp (ds := [.int 3, .int 2, .int 1]) (r_fn (rs_cons r_lit (rs_cons e (rs_cons (r_neg r_lit) rs_nil))) rfl) rfl (by show 3 < 1048576; decide) (m_cons rfl e3 (m_cons rfl e2 (m_cons rfl e1 m_nil)))
  | 2, _ => exact r_comp (ds := [.int 3, .int 2]) (r_fn (rs_cons r_lit (rs_cons e (rs_cons (r_neg r_lit) rs_nil))) rfl) rfl (by show 2 < 1048576; decide) (m_cons rfl e3 (m_cons rfl e2 m_nil))
  | 3, _ => exact r_comp (ds := [.int 3]) (r_fn (rs_cons r_lit (rs_cons e (rs_cons (r_neg r_lit) rs_nil))) rfl) rfl (by show 1 < 1048576; decide) (m_cons rfl e3 m_nil)
theorem aS_ok : ∀ y < 125, PyData.strOk (aS y) = true := by decide +kernel
theorem fi_pile (hy : ∀ k j, Y k j < 125) : ∀ m, ∀ x ∈ pile Y k m, Fi 1 x
  | 0, _, h => nomatch h
  | m + 1, x, h => by
    rcases List.mem_append.mp h with h | h
    · exact fi_pile hy m x h
    · rw [List.mem_singleton.mp h]
      refine fi_tup (n := 0) fun z hz => ?_
      rcases List.mem_cons.mp hz with rfl | hz
      · exact fi_str (bl_ok _ (by lia))
      · rw [List.mem_singleton.mp hz]; exact fi_str (aS_ok _ (hy _ _))
theorem popE_ok {i : Nat} {l : List D} (h : st[i]? = some (.acc l)) (hl : l.length ≤ lid) : ev F2 (n + 2) (σ.set 12 (.ref i)) st (.popFrom (.var 12) none) = some (.lst l, st.set i (.acc [])) :=
  r_popFrom (r_var gnew) h ro_none h hl rfl
theorem law_run (hl : ns.length ≤ 63) : ∃ σ' st', run F2 100 [(0, scD ns)] [.tab] pf8.body = some (.ret (.bool true), σ', st') ∧ st'[0]? = some .tab := by
  have hy := arr_lt ns
  have hY : Ys (arr ns) := ⟨fun k j => ld_le _ (hy k j), fun k => ld_222⟩
  have hs : fnP [.tab] .sumL [scD ns] = some (.int ns.sum) := bd (o := intsOf (ns.map .int)) (ints_map ns) rfl
  refine nng fun nG => ?_
  obtain ⟨g, ks, st', c1, P1, S1, hp, hg, h0⟩ := walks_ok hY hy (o := ord ns.sum) (fun i _ => Nat.mod_lt _ (by decide)) (ord_all ns.sum)
  obtain ⟨g2, ks2, c2, P2, S2, hg2, gk, kl⟩ := once_ok (st := st') hY hy
  obtain ⟨perm, rfl⟩ := pops_same lab_perm lab_loc S1 S2 P1 P2
  refine nG ?_
  clear nG
  have hr : rgD ks = rgD ks2 := congrArg (fun l : List Key => D.lst (l.map decB)) (sortK_congr perm)
  have ne : cmpP st' .NotEq (rgD ks) (rgD ks2) = some false := by
    have hf := fi_rings gk
    rw [hr]
    show (frz st' 6 (rgD ks2)).bind (fun x => (seqEq x (rgD ks2)).map (!·)) = _
    rw [frz_fi hf]
    show (seqEq (rgD ks2) (rgD ks2)).map (!·) = _
    rw [seq_same hf (by decide)]; rfl
  have pl : ∀ {k}, (pile (arr ns) k (4 - g k)).length ≤ lid := fun {k} => by rw [pile_len]; exact Nat.le_trans (Nat.sub_le _ _) (by decide)
  have o : ∀ {i j : Nat} {s : Store} {m x : MO}, i ≠ j → s[j]? = some m → (s.set i x)[j]? = some m := fun h e => (List.getElem?_set_ne h).trans e
  have q0 := popE_ok (n := 90) (σ := [(0, scD ns), (1, dL5 (rowD (arr ns))), (2, .int ns.sum), (4, dL5 fun k => .int (ord ns.sum k)), (5, rgD ks), (6, rfD), (7, .lst (nL g)), (8, rgD ks2), (11, dL5 fun k => .lst (pile (arr ns) k (4 - g k)))]) (hp 0 (by decide)) pl
  have q1 := popE_ok (n := 90) (σ := [(0, scD ns), (1, dL5 (rowD (arr ns))), (2, .int ns.sum), (4, dL5 fun k => .int (ord ns.sum k)), (5, rgD ks), (6, rfD), (7, .lst (nL g)), (8, rgD ks2), (11, dL5 fun k => .lst (pile (arr ns) k (4 - g k)))]) (o (i := 1) (x := .acc []) (by decide) (hp 1 (by decide))) pl
  have q2 := popE_ok (n := 90) (σ := [(0, scD ns), (1, dL5 (rowD (arr ns))), (2, .int ns.sum), (4, dL5 fun k => .int (ord ns.sum k)), (5, rgD ks), (6, rfD), (7, .lst (nL g)), (8, rgD ks2), (11, dL5 fun k => .lst (pile (arr ns) k (4 - g k)))]) (o (i := 2) (x := .acc []) (by decide) (o (i := 1) (x := .acc []) (by decide) (hp 2 (by decide)))) pl
  have q3 := popE_ok (n := 90) (σ := [(0, scD ns), (1, dL5 (rowD (arr ns))), (2, .int ns.sum), (4, dL5 fun k => .int (ord ns.sum k)), (5, rgD ks), (6, rfD), (7, .lst (nL g)), (8, rgD ks2), (11, dL5 fun k => .lst (pile (arr ns) k (4 - g k)))]) (o (i := 3) (x := .acc []) (by decide) (o (i := 2) (x := .acc []) (by decide) (o (i := 1) (x := .acc []) (by decide) (hp 3 (by decide))))) pl
  have q4 := popE_ok (n := 90) (σ := [(0, scD ns), (1, dL5 (rowD (arr ns))), (2, .int ns.sum), (4, dL5 fun k => .int (ord ns.sum k)), (5, rgD ks), (6, rfD), (7, .lst (nL g)), (8, rgD ks2), (11, dL5 fun k => .lst (pile (arr ns) k (4 - g k)))]) (o (i := 4) (x := .acc []) (by decide) (o (i := 3) (x := .acc []) (by decide) (o (i := 2) (x := .acc []) (by decide) (o (i := 1) (x := .acc []) (by decide) (hp 4 (by decide)))))) pl
  have hf : Fi 3 (dL5 fun k => .lst (pile (arr ns) k (4 - g k))) := fi_lst fun x hx => by
    have : ∃ k, x = .lst (pile (arr ns) k (4 - g k)) := by
      rcases List.mem_cons.mp hx with rfl | hx
      · exact ⟨_, rfl⟩
      rcases List.mem_cons.mp hx with rfl | hx
      · exact ⟨_, rfl⟩
      rcases List.mem_cons.mp hx with rfl | hx
      · exact ⟨_, rfl⟩
      rcases List.mem_cons.mp hx with rfl | hx
      · exact ⟨_, rfl⟩
      rw [List.mem_singleton.mp hx]; exact ⟨_, rfl⟩
    obtain ⟨k, rfl⟩ := this
    exact fi_lst (fi_pile hy _)
  have eq : ∀ st, cmpP st .Eq (dL5 fun k => .lst (pile (arr ns) k (4 - g k))) (dL5 fun k => .lst (pile (arr ns) k (4 - g k))) = some true := fun st => by
    show seqEq _ _ = _
    exact seq_same hf (by decide)
  exact ⟨_, _, n_go (xr_asg (r_call (rs_cons (r_var rfl) rs_nil) (arrows_ok hl))) (n_go (xr_asg (r_fn (rs_cons (r_var rfl) rs_nil) hs)) (n_go (xr_asg (r_comp5 (x := fun k => .int (ord ns.sum k)) fun k hk => or_ord hk rfl rfl))
    (n_go (xr_asgT (r_call (rs_cons (r_var rfl) (rs_cons (r_var rfl) rs_nil)) c1) rfl) (n_go (xr_asgT (r_call (rs_cons (r_var rfl) rs_nil) c2) rfl) (n_go (xr_ifF (tr_cmp1 (r_var rfl) (r_var rfl) ne) n_nil) (n_go (xr_asg (r_comp5 (x := fun k => .lst (pile (arr ns) k (4 - g k))) fun k hk => left_ok hk (hg k hk) rfl rfl rfl))
    (n_ret (xr_ret (r_cmp1 (r_comp (r_var rfl) rfl (by show 5 < 1048576; decide) (m_cons rfl q0 (m_cons rfl q1 (m_cons rfl q2 (m_cons rfl q3 (m_cons rfl q4 m_nil)))))) (r_var rfl) (eq _)))))))))),
    o (i := 5) (x := .acc []) (by decide) (o (i := 4) (x := .acc []) (by decide) (o (i := 3) (x := .acc []) (by decide) (o (i := 2) (x := .acc []) (by decide) (o (i := 1) (x := .acc []) (by decide) h0))))⟩
end
end Mine.Internal
end
section
open PySem PySem.W PySem.Calls PyProof.Rows
set_option Elab.async false
set_option maxRecDepth 100000
set_option maxHeartbeats 4000000
namespace Mine.Internal
noncomputable def del (h : Heap) (a : Addr) : Heap := h.update a fun o => { o with data := .freed }
theorem del_ne {h : Heap} {a b : Addr} (q : b ≠ a) : (del h a).get? b = h.get? b := Heap.get?_update_ne h b a _ q
theorem del_self {h : Heap} {a : Addr} : (del h a).get? a = none := by
  cases h with
  | mk objs l =>
    unfold del Heap.update Heap.get?
    simp only [Array.getElem?_modify, if_true]
    cases objs[a]? <;> rfl
theorem del_keep {h : Heap} {a b : Addr} {o : Obj} (e : (del h a).get? b = some o) : h.get? b = some o := by
  by_cases q : b = a
  · rw [q, del_self] at e; cases e
  · rwa [del_ne q] at e
theorem wellAll_ints {P : Params} {h : Heap} : ∀ {vs : List Value} {ns : List Int} (R : Addr → Obj → Prop) (ρ : List Addr), WellAll P h vs (ns.map .int) → Lays R ρ vs (ns.map .int)
  | vs, [], R, ρ, x => by
    cases x; exact .nil
  | vs, n :: ns, R, ρ, x => by
    cases x with
    | cons a b =>
      cases a
      exact .cons (.int _ _) (wellAll_ints R ρ b)
theorem ofPyInts (ns : List Int) : ofPy (PyData.list (ns.map .int)) = .list (ns.map .int) := by
  unfold ofPy; rw [ofPys_ints]
noncomputable abbrev tabO (ps : Array Value) : Obj := { cls := .none, data := .fields ps }
noncomputable abbrev fl91 (P : Params) : Array Value := flds P 91
theorem isCode_k {P : Params} {h : Heap} (X : (KK P).In h) (hT : h.get? 87 = some (tabO #[])) : h.IsCode 91 87 #[] ∧ h.TableAt 91 87 #[] :=
  ⟨⟨obAt (KK P) 91, fl91 P, "/claim/cut.py", 354, 3, 0, true, 276, 0, tabO #[], X _ _ (by kernel_rfl), by kernel_rfl, by kernel_rfl, by kernel_rfl, by kernel_rfl, by kernel_rfl, by kernel_rfl, hT, rfl, trivial, by decide⟩,
    ⟨obAt (KK P) 91, fl91 P, X _ _ (by kernel_rfl), by kernel_rfl, by kernel_rfl, by kernel_rfl⟩, hT⟩
theorem law_main {w : World} {s₁ : Shared} {mg mb : Str → Option Value} {p : Program} {loose : List Str} {mean : ExcName → Option Value} {fa a : Addr} {ns : List Int} {Q E : Value → Shared → Prop}
    (T : Top p loose mean mg mb s₁.heap) (KX : (KK w.params).In s₁.heap) (hT : s₁.heap.get? 87 = some (tabO #[])) (hmg : mg "law" = some (.ref fa)) (hg : s₁.gens = #[])
    (hw : Well w.params s₁.heap (.ref a) (ofPy (PyData.list (ns.map .int)))) (hn : ns.length ≤ 63)
    (hQ : ∀ s', OldK s₁.heap s'.heap → s'.os = s₁.os → AllBare s'.gens → Q (.bool true) s') :
    wpAny (model PySem.Challenge.pw_sn0007_02 w) callerA (call (.ref fa) [.ref a]) Q E s₁ := by
  have hfa : fa = 183 := by
    obtain ⟨o, es, ep, h1, h2, _, h4⟩ := T.g
    have e1 := KX 3 (obAt (KK w.params) 3) (by kernel_rfl)
    rw [show mainGlobals = 3 from rfl, e1] at h1
    cases h1
    have e2 : Data.dict es ep = _ := h2.symm.trans (show (obAt (KK w.params) 3).data = _ by kernel_rfl : (obAt (KK w.params) 3).data = .dict (match (obAt (KK w.params) 3).data with | .dict es _ => es | _ => #[]) 25)
    injection e2 with e2 _
    subst e2
    have e3 := (h4 "law").trans hmg
    have e4 : nsFind (match (obAt (KK w.params) 3).data with | .dict es _ => es | _ => #[]) ("law" : Str) = some (.ref 183) := by kernel_rfl
    exact Value.ref.inj (Option.some.inj (e3.symm.trans e4))
  subst hfa
  let c : Cx := { prog := PySem.Challenge.pw_sn0007_02, w := w, K := KK w.params, C := 118, TC := 91, T := 87, s₀ := { s₁ with heap := del s₁.heap 87 } }
  have up : ∀ {b : Addr}, b ≠ 87 → ∀ o, s₁.heap.get? b = some o → (del s₁.heap 87).get? b = some o := fun hb o e => (del_ne hb).trans e
  have O : Ok c := by
    refine ⟨fun b o e => up (fun q => ?_) o (KX b o e), ⟨mb, T.b.at' (up (by decide)), T.builtins⟩, ?_⟩
    · have z : (KK w.params).lookup 87 = none := by kernel_rfl
      rw [q] at e; exact nomatch z.symm.trans e
    · obtain ⟨mc, h1, h2⟩ := T.nolimit
      exact ⟨mc, h1.at' (up (by decide)), h2⟩
  have hm : ∃ mg bm ob, BMod c.s₀.heap mainGlobals mg bm ob := by
    obtain ⟨bm, ob, M⟩ := bmod_of_top T
    refine ⟨mg, bm, ob, M.ns.at' (up (by decide)), M.name, M.ne, up (fun q => ?_) _ M.obj, M.cls, M.dict, M.data⟩
    have := M.obj
    rw [q, hT] at this; cases this
    cases M.cls
  obtain ⟨vs, ho, hws⟩ : ∃ vs, s₁.heap.get? a = some (lstObj vs 0) ∧ WellAll w.params s₁.heap vs (ns.map .int) := by
    rw [ofPyInts] at hw
    cases hw with
    | list h1 h2 => exact ⟨_, h1, h2⟩
  have ha : a ≠ 87 := fun q => by rw [q, hT] at ho; cases ho
  have W : Wf c [] [87] [.tab] s₁ := by
    refine ⟨⟨s₁.heap, s₁.toks, s₁.gens, rfl, .of_eq hg⟩, fun b o e => del_keep e, fun q hq => ?_, fun q hq => ?_, rfl, fun i q mo e1 e2 => ?_, by simp, fun q _ h => nomatch h⟩
    · rcases hq with hq | hq
      · cases hq
      · rw [List.mem_singleton.mp hq]; exact ⟨_, hT⟩
    · rcases hq with hq | hq
      · cases hq
      · rw [List.mem_singleton.mp hq]; exact del_self
    · match i with
      | 0 =>
        cases e1; cases e2
        exact ⟨rfl, ⟨_, KX 91 (obAt (KK w.params) 91) (by kernel_rfl), show (91 : Nat) ∉ [87] by decide⟩, #[], isCode_k KX hT⟩
      | i + 1 => cases e1
  obtain ⟨σ', st', hrun, h0t⟩ := law_run (ns := ns) hn
  have TB := tb (c := c) w.params rfl rfl rfl hm rfl O
  have R : Rm (300 + 1) callerA := ⟨rfl, by decide, by decide⟩
  have C : CallE c callerA (.ref 183) [scD ns] [.tab] (.bool true) st' :=
    call_open (n := 300) (fl := .ret (.bool true)) O R (fi8 (c := c) w.params rfl) rfl fun A RA => (sound TB 100).B 60 _ sc8 _ pf8.body (ck8 w.params) A _ _ _ _ _ RA hrun
  refine wpAny_mono (C [] [87] s₁ [.ref a] W (.one (.lst (n := 0) (vs := vs) ⟨ho, fun q => ha (List.mem_singleton.mp q)⟩ (wellAll_ints _ _ hws))) Q fun v s' ρ' W' A' l => ?_) (fun _ _ q => q) fun _ _ q => q.elim
  cases l
  obtain ⟨h', tk, g, rfl, hb⟩ := W'.same
  refine hQ _ ?_ rfl hb
  have h0 : ρ'[0]? = some 87 := A'.pre 0 87 rfl
  obtain ⟨_, _, ps, _, ht⟩ := W'.store 0 87 .tab h0 h0t
  have ht0 := (isCode_k KX hT).2
  refine ⟨fun b o e => ?_, fun b o e => ?_⟩
  · by_cases q : b = 87
    · subst q
      rw [hT] at e; cases e
      exact .inr (.inl ⟨ht0.isCodeTable, rfl, #[], ps, rfl, by rw [Array.empty_append]; exact ht.2⟩)
    · exact .inl (W'.base b o (up q o e))
  · by_cases q : b = 87
    · subst q; exact ⟨_, ht.2⟩
    · exact ⟨_, W'.base b o (up q o e)⟩
end Mine.Internal
end
section
open PySem PySem.W PySem.Calls PyProof.Rows
set_option Elab.async false
set_option maxRecDepth 100000
set_option maxHeartbeats 8000000
theorem Mine.Internal.ws : OpenLaw.wellSaid PySem.Challenge.rw_sn0007_02 = true := by decide +kernel
end
section
open PySem PySem.W PySem.Calls PyProof.Rows
set_option Elab.async false
set_option maxRecDepth 100000
set_option maxHeartbeats 8000000

theorem PySem.Challenge.cw_sn0007_02_holds : PySem.Challenge.rw_sn0007_02.Holds := by
  w_on
  refine holds_law Mine.Internal.ws fun said => ?_
  o_head Mine.Internal.tHook
  case hw => w_witness2
  intro w s₀ s₁ mg mb G Y fa o pm cd doc dV kV ho hd hcd hD hmg hg args vals as hpre hlay hrd hwl hlo
  clear ho hd hcd hD
  wrow_args hpre hlay hrd hwl hlo
  rename Well _ _ _ _ => WW
  rename ¬ (_ : Int) < _ => hc
  refine Mine.Internal.law_main G.T Y.1 Y.2 hmg hg WW (by omega) fun s' k1 k2 k3 => ?_
  exact ⟨.inl ⟨.bool true, .bool true, [], rfl, fun _ => rfl, .bool true, by kernel_rfl, fun _ => ⟨List.nodup_nil, fun a ha => by cases ha⟩⟩, k1, k2, k3⟩
end
