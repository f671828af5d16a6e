import Derived.Test.Qxb6615497aGreatDoorPlain
import Derived.Test.Qxb6615497aGreatDoorF6
/- the lines of a body, byte by byte. -/
namespace Go.Proofs.Qxb6615497aGreatDoor
open Go Go.RowKit

theorem eol_iff (x : Nat) : isEol x = true ↔ x = 13 ∨ x = 10 := by unfold isEol; simp
theorem eol_not (x : Nat) : isEol x = false ↔ x ≠ 13 ∧ x ≠ 10 := by unfold isEol; simp

theorem decodeN_eol (n b0 b1 b2 b3 : Nat) :
    (((Lib.decodeN n b0 b1 b2 b3).1 = 13 ∨ (Lib.decodeN n b0 b1 b2 b3).1 = 10) ∧ (Lib.decodeN n b0 b1 b2 b3).2 = 1 ∧ (b0 = 13 ∨ b0 = 10)) ∨
    (((Lib.decodeN n b0 b1 b2 b3).1 ≠ 13 ∧ (Lib.decodeN n b0 b1 b2 b3).1 ≠ 10) ∧ 1 ≤ (Lib.decodeN n b0 b1 b2 b3).2 ∧ (Lib.decodeN n b0 b1 b2 b3).2 ≤ 4 ∧ (b0 ≠ 13 ∧ b0 ≠ 10) ∧ (1 < (Lib.decodeN n b0 b1 b2 b3).2 → 1 < n ∧ 128 ≤ b1) ∧ (2 < (Lib.decodeN n b0 b1 b2 b3).2 → 2 < n ∧ 128 ≤ b2) ∧ (3 < (Lib.decodeN n b0 b1 b2 b3).2 → 3 < n ∧ 128 ≤ b3)) := by
  unfold Lib.decodeN
  repeat' split
  all_goals dsimp only
  all_goals omega

def linesGo : List UInt8 → List UInt8 → List (List UInt8)
  | [], cur => if cur = [] then [] else [cur]
  | c :: r, cur => if isEol c.toNat then (if cur = [] then linesGo r [] else cur :: linesGo r []) else linesGo r (cur ++ [c])
def linesL (l : List UInt8) : List (List UInt8) := linesGo l []

theorem linesGo_cut (b : List UInt8) : ∀ (a cur : List UInt8), linesGo (a ++ 10 :: b) cur = linesGo a cur ++ linesGo b []
  | [], cur => by
    have h : isEol (10 : UInt8).toNat = true := by decide
    simp only [List.nil_append, linesGo, h, if_true]
    split <;> simp
  | c :: r, cur => by
    simp only [List.cons_append, linesGo]
    split
    · split
      · exact linesGo_cut b r []
      · rw [linesGo_cut b r []]; rfl
    · exact linesGo_cut b r _

theorem linesGo_run : ∀ (k : Nat) (l cur : List UInt8), k ≤ l.length → (∀ (j : Nat) (c : UInt8), j < k → l[j]? = some c → isEol c.toNat = false) → linesGo l cur = linesGo (l.drop k) (cur ++ l.take k)
  | 0, l, cur, _, _ => by simp
  | k + 1, [], cur, h, _ => by simp at h
  | k + 1, c :: r, cur, h, hj => by
    have h0 := hj 0 c (by omega) rfl
    rw [List.drop_succ_cons, List.take_succ_cons]
    have ih := linesGo_run k r (cur ++ [c]) (by simpa using h) (fun j x hjk hx => hj (j + 1) x (by omega) (by simpa using hx))
    rw [List.append_assoc] at ih
    rw [← List.singleton_append (l := r.take k)]
    rw [← ih]
    simp only [linesGo, h0, Bool.false_eq_true, if_false]

/-- the bytes of a span. -/
def piece (s : ByteArray) (x : Nat × Nat) : List UInt8 := (s.data.toList.drop x.1).take (x.2 - x.1)

theorem piece_len (s : ByteArray) (x : Nat × Nat) (h : x.2 ≤ s.size) : (piece s x).length = x.2 - x.1 := by
  unfold piece
  rw [List.length_take, List.length_drop]
  have : s.data.toList.length = s.size := by simp
  omega

theorem piece_grow (s : ByteArray) (a p k : Nat) (h : a ≤ p) : piece s (a, p) ++ (s.data.toList.drop p).take k = piece s (a, p + k) := by
  unfold piece
  dsimp only
  have e : p = a + (p - a) := by omega
  rw [show p + k - a = (p - a) + k by omega, List.take_add, List.drop_drop, ← e]

def curOf (s : ByteArray) (pos : Nat) : Option Nat → List UInt8
  | some a => piece s (a, pos)
  | none => []

theorem spans_lines (s : ByteArray) : ∀ (f pos : Nat) (st : Option Nat) (acc : List (Nat × Nat)), s.size ≤ pos + f → pos ≤ s.size → (∀ a, st = some a → a < pos) →
    (Lib.closeSpans s (Lib.spansFromP isEol s f pos st acc)).map (piece s) = acc.map (piece s) ++ linesGo (s.data.toList.drop pos) (curOf s pos st) := by
  have hlen : s.data.toList.length = s.size := by simp
  have fin : ∀ (st : Option Nat) (acc : List (Nat × Nat)), (∀ a, st = some a → a < s.size) → (Lib.closeSpans s (acc, st)).map (piece s) = acc.map (piece s) ++ linesGo (s.data.toList.drop s.size) (curOf s s.size st) := by
    intro st acc hst
    rw [List.drop_eq_nil_of_le (by omega)]
    cases st with
    | none => simp [Lib.closeSpans, curOf, linesGo]
    | some a =>
      have := hst a rfl
      have hp := piece_len s (a, s.size) (Nat.le_refl _)
      have hne : piece s (a, s.size) ≠ [] := by intro e; rw [e] at hp; simp at hp; omega
      simp [Lib.closeSpans, curOf, linesGo, hne]
  intro f
  induction f with
  | zero =>
    intro pos st acc hf hps hst
    obtain rfl : pos = s.size := by omega
    rw [Lib.spansFromP_end isEol s 0 _ _ _ (by omega)]
    exact fin st acc hst
  | succ f ih =>
    intro pos st acc hf hps hst
    by_cases hlt : pos < s.size
    · have hd : Utf8.decode s pos = Lib.decodeN (s.size - pos) (s.get! pos).toNat (s.get! (pos + 1)).toNat (s.get! (pos + 2)).toNat (s.get! (pos + 3)).toNat := Lib.decode_at s pos
      have hcs := decodeN_eol (s.size - pos) (s.get! pos).toNat (s.get! (pos + 1)).toNat (s.get! (pos + 2)).toNat (s.get! (pos + 3)).toNat
      rw [← hd] at hcs
      have hget : ∀ j, pos + j < s.size → s.data.toList[pos + j]? = some (s.get! (pos + j)) := fun j hj => by
        rw [get_list s (pos + j) hj, get_bang s (pos + j) hj]
      obtain ⟨R, hR⟩ : ∃ R, (Utf8.decode s pos).1 = R := ⟨_, rfl⟩
      obtain ⟨K, hK⟩ : ∃ K, (Utf8.decode s pos).2 = K := ⟨_, rfl⟩
      rw [hR, hK] at hcs
      unfold Lib.spansFromP
      rw [if_pos hlt, hR, hK]
      rcases hcs with ⟨h1, hk, h2⟩ | ⟨h1, hk1, hk4, h2, c1, c2, c3⟩
      · have hkk := hk
        rw [if_pos ((eol_iff _).2 h1), hk]
        have hdrop : s.data.toList.drop pos = s.get! pos :: s.data.toList.drop (pos + 1) := by
          rw [List.drop_eq_getElem_cons (by omega)]
          have := hget 0 (by omega)
          rw [Nat.add_zero, List.getElem?_eq_getElem (by omega)] at this
          injection this with this
          rw [this]
        have heol : isEol (s.get! pos).toNat = true := (eol_iff _).2 h2
        rw [hdrop]
        cases st with
        | none =>
          have := ih (pos + 1) none acc (by omega) (by omega) (fun a h => by cases h)
          dsimp only
          rw [this]
          simp [curOf, linesGo, heol]
        | some a =>
          have ha := hst a rfl
          have hp := piece_len s (a, pos) (by dsimp only; omega)
          have hne : piece s (a, pos) ≠ [] := by intro e; rw [e] at hp; simp at hp; omega
          have := ih (pos + 1) none (acc ++ [(a, pos)]) (by omega) (by omega) (fun a h => by cases h)
          dsimp only
          rw [this]
          simp [curOf, linesGo, heol, hne]
      · rw [if_neg (by rw [(eol_not _).2 h1]; decide)]
        have hpk : pos + K ≤ s.size := by
          rcases Nat.lt_or_ge 3 K with h | h
          · have := (c3 h).1; omega
          rcases Nat.lt_or_ge 2 K with h | h
          · have := (c2 h).1; omega
          rcases Nat.lt_or_ge 1 K with h | h
          · have := (c1 h).1; omega
          omega
        have hrun := linesGo_run K (s.data.toList.drop pos) (curOf s pos st) (by rw [List.length_drop]; omega) (by
          intro j c hj hc
          rw [List.getElem?_drop, hget j (by omega)] at hc
          injection hc with hc
          rw [← hc, eol_not]
          match j, hj with
          | 0, _ => exact h2
          | 1, hj => have := (c1 hj).2; omega
          | 2, hj => have := (c2 hj).2; omega
          | 3, hj => have := (c3 hj).2; omega
          | j + 4, hj => omega)
        rw [hrun, List.drop_drop]
        cases st with
        | none =>
          have := ih (pos + K) (some pos) acc (by omega) hpk (fun a h => by cases h; omega)
          dsimp only
          rw [this]
          have e := piece_grow s pos pos K (Nat.le_refl _)
          have e0 : piece s (pos, pos) = [] := by unfold piece; simp
          rw [e0] at e
          show _ = _ ++ linesGo _ ([] ++ _)
          rw [e]
          rfl
        | some a =>
          have ha := hst a rfl
          have := ih (pos + K) (some a) acc (by omega) hpk (fun b h => by cases h; omega)
          dsimp only
          rw [this]
          show _ = _ ++ linesGo _ (piece s (a, pos) ++ _)
          rw [piece_grow s a pos K (by omega)]
          rfl
    · obtain rfl : pos = s.size := by omega
      rw [Lib.spansFromP_end isEol s _ _ _ _ hlt]
      exact fin st acc hst

theorem spans_are (s : ByteArray) : (Lib.spansOfP isEol s).map (piece s) = linesL s.data.toList := by
  have := spans_lines s s.size 0 none [] (by omega) (by omega) (fun a h => by cases h)
  simpa [Lib.spansOfP, linesL, curOf] using this

/-- each span lies within the body. -/
theorem spans_in (s : ByteArray) : ∀ (f pos : Nat) (st : Option Nat) (acc : List (Nat × Nat)), pos ≤ s.size → (∀ a, st = some a → a < pos) → acc.length ≤ pos → (∀ x ∈ acc, x.1 < x.2 ∧ x.2 ≤ s.size) →
    (Lib.closeSpans s (Lib.spansFromP isEol s f pos st acc)).length ≤ s.size + 1 ∧ ∀ x ∈ Lib.closeSpans s (Lib.spansFromP isEol s f pos st acc), x.1 < x.2 ∧ x.2 ≤ s.size := by
  have fin : ∀ (pos : Nat) (st : Option Nat) (acc : List (Nat × Nat)), pos ≤ s.size → (∀ a, st = some a → a < pos) → acc.length ≤ pos → (∀ x ∈ acc, x.1 < x.2 ∧ x.2 ≤ s.size) → (Lib.closeSpans s (acc, st)).length ≤ s.size + 1 ∧ ∀ x ∈ Lib.closeSpans s (acc, st), x.1 < x.2 ∧ x.2 ≤ s.size := by
    intro pos st acc hp hst hl hx
    cases st with
    | none => exact ⟨by show acc.length ≤ _; omega, hx⟩
    | some a =>
      have := hst a rfl
      refine ⟨by show (acc ++ [(a, s.size)]).length ≤ _; simp; omega, fun x h => ?_⟩
      rcases List.mem_append.1 h with h | h
      · exact hx x h
      · simp at h; subst h; exact ⟨by dsimp only; omega, Nat.le_refl _⟩
  intro f
  induction f with
  | zero => intro pos st acc hp hst hl hx; exact fin pos st acc hp hst hl hx
  | succ f ih =>
    intro pos st acc hp hst hl hx
    unfold Lib.spansFromP
    by_cases hlt : pos < s.size
    · rw [if_pos hlt]
      have hwd := Lib.width_pos s pos
      have hwn : pos + (Utf8.decode s pos).2 ≤ s.size := by
        have := Lib.decodeN_le_n' (s.size - pos) (s.get! pos).toNat (s.get! (pos + 1)).toNat (s.get! (pos + 2)).toNat (s.get! (pos + 3)).toNat (by omega)
        rw [← Lib.decode_at] at this
        omega
      split
      · cases st with
        | none => exact ih _ _ _ hwn (fun a h => by cases h) (by omega) hx
        | some a =>
          have := hst a rfl
          refine ih _ _ _ hwn (fun a h => by cases h) (by simp; omega) (fun x h => ?_)
          rcases List.mem_append.1 h with h | h
          · exact hx x h
          · simp at h; subst h; exact ⟨by dsimp only; omega, by dsimp only; omega⟩
      · cases st with
        | none => exact ih _ _ _ hwn (fun a h => by cases h; omega) (by omega) hx
        | some a => have := hst a rfl; exact ih _ _ _ hwn (fun b h => by cases h; omega) (by omega) hx
    · rw [if_neg hlt]
      exact fin pos st acc hp hst hl hx
theorem spans_ok (s : ByteArray) : (Lib.spansOfP isEol s).length ≤ s.size + 1 ∧ ∀ x ∈ Lib.spansOfP isEol s, x.1 < x.2 ∧ x.2 ≤ s.size :=
  spans_in s s.size 0 none [] (by omega) (fun a h => by cases h) (by simp) (fun x h => by cases h)
end Go.Proofs.Qxb6615497aGreatDoor
