/-
  PLAIN FUNCTIONS (no Go in sight) for the seat b6614997aF: the query's unescaping, its pairs, counts, pages.
-/
namespace Go.Proofs.Qxb6614997aFmt.Pl

/-- net/url.table, as the row lays it. -/
def tab : List Int := [0,0,0,0,0,0,0,0,0,0,0,0,0,0,0,0,0,0,0,0,0,0,0,0,0,0,0,0,0,0,0,0,0,76,12,0,95,0,95,12,76,76,76,95,93,127,127,65,255,255,255,255,255,255,255,255,255,255,79,93,12,95,12,64,67,255,255,255,255,255,255,127,127,127,127,127,127,127,127,127,127,127,127,127,127,127,127,127,127,127,127,12,0,12,0,127,0,255,255,255,255,255,255,127,127,127,127,127,127,127,127,127,127,127,127,127,127,127,127,127,127,127,127,0,0,0,127,0,0,0,0,0,0,0,0,0,0,0,0,0,0,0,0,0,0,0,0,0,0,0,0,0,0,0,0,0,0,0,0,0,0,0,0,0,0,0,0,0,0,0,0,0,0,0,0,0,0,0,0,0,0,0,0,0,0,0,0,0,0,0,0,0,0,0,0,0,0,0,0,0,0,0,0,0,0,0,0,0,0,0,0,0,0,0,0,0,0,0,0,0,0,0,0,0,0,0,0,0,0,0,0,0,0,0,0,0,0,0,0,0,0,0,0,0,0,0,0,0,0,0,0,0,0,0,0,0]

/-- ishex. -/
def hexB (c : UInt8) : Bool := decide (128 ≤ tab.getD c.toNat 0)
/-- unhex. -/
def unh (c : UInt8) : UInt8 := (9 : UInt8) * (c >>> (6 : UInt8)) + (c &&& (15 : UInt8))
/-- the byte that two hex digits spell. -/
def two (a b : UInt8) : UInt8 := (unh a <<< (4 : UInt8)) ||| unh b

/-- is every percent sign followed by two hex digits? -/
def okEsc : List UInt8 → Bool
  | [] => true
  | c :: r =>
    if c = 37 then
      match r with
      | a :: b :: r' => hexB a && hexB b && okEsc r'
      | _ => false
    else okEsc r

/-- how many escapes. -/
def cnt : List UInt8 → Nat
  | [] => 0
  | c :: r =>
    if c = 37 then
      match r with
      | _ :: _ :: r' => cnt r' + 1
      | _ => 0
    else cnt r

/-- is there a plus sign (outside an escape)? -/
def plus : List UInt8 → Bool
  | [] => false
  | c :: r =>
    if c = 37 then
      match r with
      | _ :: _ :: r' => plus r'
      | _ => false
    else if c = 43 then true else plus r

/-- what it decodes to. -/
def dec : List UInt8 → List UInt8
  | [] => []
  | c :: r =>
    if c = 37 then
      match r with
      | a :: b :: r' => two a b :: dec r'
      | _ => []
    else if c = 43 then 32 :: dec r else c :: dec r

theorem dec_plain : ∀ (l : List UInt8), okEsc l = true → cnt l = 0 → plus l = false → dec l = l
  | [], _, _, _ => rfl
  | c :: r, h, hn, hp => by
    unfold okEsc at h; unfold cnt at hn; unfold plus at hp; unfold dec
    by_cases e : c = 37
    · simp only [e, if_true] at h hn
      match r, h, hn with
      | a :: b :: r', h, hn => simp at hn
    · simp only [e, if_false] at h hn hp ⊢
      by_cases e2 : c = 43
      · simp [e2] at hp
      · simp only [e2, if_false] at hp ⊢
        rw [dec_plain r h hn hp]

/-- 'no escape and no plus': it is what it says. -/
theorem plain_all : ∀ (l : List UInt8), (∀ c ∈ l, c ≠ 37 ∧ c ≠ 43) → okEsc l = true ∧ dec l = l
  | [], _ => ⟨rfl, rfl⟩
  | c :: r, h => by
    obtain ⟨h1, h2⟩ := h c (by simp)
    obtain ⟨a, b⟩ := plain_all r (fun d hd => h d (by simp [hd]))
    unfold okEsc dec
    simp [h1, h2, a, b]

theorem cnt_le : ∀ (l : List UInt8), okEsc l = true → 3 * cnt l ≤ l.length
  | [], _ => by simp [cnt]
  | c :: r, h => by
    unfold okEsc at h; unfold cnt
    by_cases e : c = 37
    · simp only [e, if_true] at h ⊢
      match r, h with
      | a :: b :: r', h =>
        simp at h
        have := cnt_le r' h.2
        simp; omega
    · simp only [e, if_false] at h ⊢
      have := cnt_le r h
      simp; omega

theorem dec_length : ∀ (l : List UInt8), okEsc l = true → (dec l).length + 2 * cnt l = l.length
  | [], _ => by simp [cnt, dec]
  | c :: r, h => by
    unfold okEsc at h; unfold cnt dec
    by_cases e : c = 37
    · simp only [e, if_true] at h ⊢
      match r, h with
      | a :: b :: r', h =>
        simp at h
        have := dec_length r' h.2
        simp; omega
    · simp only [e, if_false] at h ⊢
      have := dec_length r h
      by_cases e2 : c = 43 <;> simp [e2] <;> omega

theorem dec_length_le (l : List UInt8) (h : okEsc l = true) : (dec l).length ≤ l.length := by have := dec_length l h; omega

/-- net/url.QueryUnescape. -/
def unesc (l : List UInt8) : Option (List UInt8) := if okEsc l then some (dec l) else none

/-- the pieces between the ampersands. -/
def pairs : List UInt8 → List (List UInt8)
  | [] => [[]]
  | c :: r => if c = 38 then [] :: pairs r else
      match pairs r with
      | [] => [[c]]
      | p :: ps => (c :: p) :: ps

theorem pairs_ne : ∀ (l : List UInt8), pairs l ≠ []
  | [] => by simp [pairs]
  | c :: r => by
    unfold pairs
    by_cases e : c = 38
    · simp [e]
    · simp only [e, if_false]
      cases h : pairs r <;> simp

theorem pairs_amp : ∀ (a b : List UInt8), (∀ c ∈ a, c ≠ 38) → pairs (a ++ 38 :: b) = a :: pairs b
  | [], b, _ => by simp [pairs]
  | c :: a, b, h => by
    have hc := h c (by simp)
    show pairs (c :: (a ++ 38 :: b)) = _
    rw [pairs]
    simp only [hc, if_false]
    rw [pairs_amp a b (fun d hd => h d (by simp [hd]))]

theorem pairs_none : ∀ (a : List UInt8), (∀ c ∈ a, c ≠ 38) → pairs a = [a]
  | [], _ => by simp [pairs]
  | c :: a, h => by
    have hc := h c (by simp)
    rw [pairs]
    simp only [hc, if_false]
    rw [pairs_none a (fun d hd => h d (by simp [hd]))]

/-- the key of a pair: what stands ahead of the first '='. -/
def keyOf (p : List UInt8) : List UInt8 := p.takeWhile (· != 61)
/-- the value of a pair: what stands behind the first '='; empty where there is none. -/
def valOf (p : List UInt8) : List UInt8 := (p.dropWhile (· != 61)).drop 1

/-- is the pair's key, unescaped, this name? -/
def isNamed (name p : List UInt8) : Bool := decide (unesc (keyOf p) = some name)
/-- the pair's value, where it can be read. -/
def pairVal (p : List UInt8) : Option (List UInt8) := if p.contains 59 then none else unesc (valOf p)

/-- the first pair of that name. -/
def first (name q : List UInt8) : Option (List UInt8) := (pairs q).find? (isNamed name)

/-- the largest int. -/
def mx : Nat := 9223372036854775807
/-- one digit more, saturating. -/
def step (n : Nat) (c : UInt8) : Nat := if n > (mx - (c.toNat - 48)) / 10 then mx else n * 10 + (c.toNat - 48)
def isDig (c : UInt8) : Bool := decide (48 ≤ c.toNat ∧ c.toNat ≤ 57)
/-- parseCount. -/
def count (s : List UInt8) : Option Nat := if s = [] then none else if s.all isDig then some (s.foldl step 0) else none

/-- countParam: the parameter is not there ¦ it is there: its count, or a refusal. -/
def param (name q : List UInt8) : Option (Option Nat) :=
  match first name q with
  | none => none
  | some p => some (match pairVal p with
    | none => none
    | some v => count v)

def limitN : List UInt8 := [108, 105, 109, 105, 116]
def offsetN : List UInt8 := [111, 102, 102, 115, 101, 116]

/-- the limit half. -/
def limitOf (q : List UInt8) (most : Int) : Option Int :=
  match param limitN q with
  | none => some 20
  | some none => none
  | some (some n) => if n = 0 then none else if (n : Int) > most then none else some n

/-- the offset half. -/
def offsetOf (q : List UInt8) : Option Int :=
  match param offsetN q with
  | none => some 0
  | some none => none
  | some (some n) => some n

/-- requestedPage: offset and limit, or a refusal. -/
def page (q : List UInt8) (most : Int) : Option (Int × Int) :=
  match limitOf q most with
  | none => none
  | some l => match offsetOf q with
    | none => none
    | some o => some (o, l)

end Go.Proofs.Qxb6614997aFmt.Pl
