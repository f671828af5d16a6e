import Derived.Lib.Split
/- Functions without Go: the scanner's lengths, the automaton, and that they agree. -/
namespace Go.Proofs.Qxb6606071aDoor
open Go

/-- a fact kept out of the walk's sight. -/
def Hid (p : Prop) : Prop := p
theorem hide {p : Prop} (h : p) : Hid p := h
theorem unhide {p : Prop} (h : Hid p) : p := h

namespace Pl
def isDig (c : UInt8) : Bool := decide (48 ≤ c.toNat ∧ c.toNat ≤ 57)
def isSign (c : UInt8) : Bool := c == 43 || c == 45
def isE (c : UInt8) : Bool := c == 101 || c == 69
def isBlank (c : UInt8) : Bool := c == 32 || c == 9 || c == 10 || c == 13

/-- how many digits it begins with. -/
def nd : List UInt8 → Nat
  | [] => 0
  | c :: l => if isDig c then nd l + 1 else 0

/-- the exponent's length behind an e, where it has a digit. -/
def ex : List UInt8 → Option Nat
  | [] => none
  | c :: l => if isSign c then (if nd l = 0 then none else some (nd l + 1)) else (if nd (c :: l) = 0 then none else some (nd (c :: l)))

/-- the automaton's step. -/
def step : Nat → UInt8 → Option Nat
  | 0, c => if isSign c then some 1 else if isDig c then some 2 else if c == 46 then some 3 else none
  | 1, c => if isDig c then some 2 else if c == 46 then some 3 else none
  | 2, c => if isDig c then some 2 else if c == 46 then some 4 else if isE c then some 5 else none
  | 3, c => if isDig c then some 4 else none
  | 4, c => if isDig c then some 4 else if isE c then some 5 else none
  | 5, c => if isSign c then some 6 else if isDig c then some 7 else none
  | 6, c => if isDig c then some 7 else none
  | 7, c => if isDig c then some 7 else none
  | _, _ => none

def run : List UInt8 → Nat → Nat → Int → Int → Int → Int × Int × Int
  | [], _, _, la, p, e => (la, p, e)
  | c :: l, i, st, la, p, e =>
    match step st c with
    | none => (la, p, e)
    | some n => run l (i + 1) n (if n = 2 ∨ n = 4 ∨ n = 7 then (i : Int) + 1 else la) (if n = 3 ∨ (st = 2 ∧ n = 4) then (i : Int) else p) (if n = 5 then (i : Int) else e)

theorem run7 : ∀ (l : List UInt8) (i : Nat) (p e : Int), run l i 7 i p e = ((i : Int) + nd l, p, e)
  | [], i, p, e => by simp [run, nd]
  | c :: l, i, p, e => by
    unfold run nd
    by_cases h : isDig c = true
    · have ih := run7 l (i + 1) p e
      simp only [step, h, if_true]
      simp only [Int.natCast_add] at ih
      simp
      rw [show ((i : Int) + 1) = (i : Int) + ((1 : Nat) : Int) from rfl]
      rw [ih]
      simp
      omega
    · simp [step, h]

theorem run6 (l : List UInt8) (i : Nat) (la p e : Int) : run l i 6 la p e = if nd l = 0 then (la, p, e) else ((i : Int) + nd l, p, e) := by
  cases l with
  | nil => simp [run, nd]
  | cons c l =>
    unfold run nd
    by_cases h : isDig c = true
    · have ih := run7 l (i + 1) p e
      simp only [step, h, if_true]
      simp
      simp only [Int.natCast_add] at ih
      rw [show ((i : Int) + 1) = (i : Int) + ((1 : Nat) : Int) from rfl, ih]
      simp
      omega
    · simp [step, h]

theorem sign_not_dig {c : UInt8} (h : isSign c = true) : isDig c = false := by
  simp [isSign] at h
  rcases h with rfl | rfl <;> rfl

theorem run5 (l : List UInt8) (i : Nat) (la p e : Int) : run l i 5 la p e = match ex l with | none => (la, p, e) | some k => ((i : Int) + k, p, e) := by
  cases l with
  | nil => simp [run, ex]
  | cons c l =>
    unfold run ex
    by_cases hs : isSign c = true
    · simp only [step, hs, if_true]
      simp
      rw [run6]
      by_cases h0 : nd l = 0
      · simp [h0]
      · simp [h0]; omega
    · by_cases h : isDig c = true
      · have ih := run7 l (i + 1) p e
        simp only [step, hs, h, if_true]
        simp
        simp only [Int.natCast_add] at ih
        rw [show ((i : Int) + 1) = (i : Int) + ((1 : Nat) : Int) from rfl, ih]
        simp [nd, h]
        omega
      · simp [step, hs, h, nd]

/-- what follows the mantissa. -/
def tailE : List UInt8 → Nat → Int → Int × Int × Int
  | c :: l, i, p => if isE c then (match ex l with | none => ((i : Int), p, (i : Int)) | some k => ((i : Int) + 1 + k, p, (i : Int))) else ((i : Int), p, -1)
  | [], i, p => ((i : Int), p, -1)

theorem e_not_dig {c : UInt8} (h : isE c = true) : isDig c = false := by
  simp [isE] at h
  rcases h with rfl | rfl <;> rfl

theorem run4 : ∀ (l : List UInt8) (i : Nat) (p : Int), run l i 4 i p (-1) = tailE (l.drop (nd l)) (i + nd l) p
  | [], i, p => by simp [run, nd, tailE]
  | c :: l, i, p => by
    unfold run nd
    by_cases h : isDig c = true
    · have ih := run4 l (i + 1) p
      simp only [step, h, if_true]
      simp
      simp only [Int.natCast_add] at ih
      rw [show ((i : Int) + 1) = (i : Int) + ((1 : Nat) : Int) from rfl, ih]
      congr 1
      omega
    · by_cases he : isE c = true
      · simp only [step, h, he, if_true]
        simp
        rw [run5]
        simp only [tailE, he, if_true]
        cases ex l <;> simp
      · simp [step, h, he, tailE]

theorem run3 (l : List UInt8) (i : Nat) (p : Int) : run l i 3 (-1) p (-1) = if nd l = 0 then (-1, p, -1) else tailE (l.drop (nd l)) (i + nd l) p := by
  cases l with
  | nil => simp [run, nd]
  | cons c l =>
    unfold run nd
    by_cases h : isDig c = true
    · have ih := run4 l (i + 1) p
      simp only [step, h, if_true]
      simp
      simp only [Int.natCast_add] at ih
      rw [show ((i : Int) + 1) = (i : Int) + ((1 : Nat) : Int) from rfl, ih]
      congr 1
      omega
    · simp [step, h]

/-- what follows the integer's digits, of which there is one. -/
def tailI : List UInt8 → Nat → Int × Int × Int
  | c :: l, i => if c = 46 then tailE (l.drop (nd l)) (i + 1 + nd l) i else tailE (c :: l) i (-1)
  | [], i => ((i : Int), -1, -1)

theorem run2 : ∀ (l : List UInt8) (i : Nat), run l i 2 i (-1) (-1) = tailI (l.drop (nd l)) (i + nd l)
  | [], i => by simp [run, nd, tailI]
  | c :: l, i => by
    unfold run nd
    by_cases h : isDig c = true
    · have ih := run2 l (i + 1)
      simp only [step, h, if_true]
      simp
      simp only [Int.natCast_add] at ih
      rw [show ((i : Int) + 1) = (i : Int) + ((1 : Nat) : Int) from rfl, ih]
      congr 1
      omega
    · by_cases hd : c = 46
      · subst hd
        have ih := run4 l (i + 1) i
        simp only [step, h]
        simp
        simp only [Int.natCast_add] at ih
        rw [show ((i : Int) + 1) = (i : Int) + ((1 : Nat) : Int) from rfl, ih]
        simp [tailI]
      · by_cases he : isE c = true
        · simp only [step, h, he, if_true]
          simp [hd]
          rw [run5]
          simp only [tailI, hd, if_false, tailE, he, if_true]
          cases ex l <;> simp
        · simp [step, h, he, hd, tailI, tailE]

/-- from behind the sign. -/
def tailS (l : List UInt8) (i : Nat) : Int × Int × Int :=
  if nd l = 0 then (match l with | c :: r => if c = 46 then (if nd r = 0 then (-1, (i : Int), -1) else tailE (r.drop (nd r)) (i + 1 + nd r) i) else (-1, -1, -1) | [] => (-1, -1, -1))
  else tailI (l.drop (nd l)) (i + nd l)

theorem runS (st : Nat) (hst : st = 0 ∨ st = 1) (l : List UInt8) (i : Nat) (hns : ∀ c, l.head? = some c → isSign c = false ∨ st = 1) : run l i st (-1) (-1) (-1) = tailS l i := by
  cases l with
  | nil => simp [run, tailS, nd]
  | cons c l =>
    have hstep : step st c = if isDig c then some 2 else if c == 46 then some 3 else none := by
      rcases hst with rfl | rfl
      · rcases hns c rfl with h | h
        · simp [step, h]
        · cases h
      · rfl
    unfold run tailS
    rw [hstep]
    by_cases h : isDig c = true
    · have ih := run2 l (i + 1)
      simp only [h, if_true]
      simp
      simp only [Int.natCast_add] at ih
      rw [show ((i : Int) + 1) = (i : Int) + ((1 : Nat) : Int) from rfl, ih]
      simp [nd, h]
      congr 1
      omega
    · by_cases hd : c = 46
      · subst hd
        simp only [h]
        simp
        rw [run3]
        simp [nd, h]
      · simp [h, hd, nd]

def sg : List UInt8 → Nat
  | c :: _ => if isSign c then 1 else 0
  | [] => 0

theorem run0 (l : List UInt8) : run l 0 0 (-1) (-1) (-1) = tailS (l.drop (sg l)) (sg l) := by
  cases l with
  | nil => simp [run, sg, tailS, nd]
  | cons c l =>
    by_cases h : isSign c = true
    · unfold run
      simp only [step, h, if_true, sg]
      simp
      exact runS 1 (.inr rfl) l 1 (fun _ _ => .inr rfl)
    · have := runS 0 (.inl rfl) (c :: l) 0 (fun d hd => .inl (by simp at hd; subst hd; simpa using h))
      rw [this]
      simp [sg, h]
end Pl
end Go.Proofs.Qxb6606071aDoor
