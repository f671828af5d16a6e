import Derived.Test.Qxb6615497aGreatDoorG11
import Derived.Test.Qxb6615497aGreatDoorG15
/- parseRobots as a plain function of the lines. -/
namespace Go.Proofs.Qxb6615497aGreatDoor
open Go Go.RowKit

/-- the bytes of a product token. -/
def TokByte (x : Nat) : Prop := x < 128 ∧ x ≠ 42
theorem decode_tok (s : ByteArray) (pos : Nat) (h : pos < s.size) (hd : offToken (Utf8.decode s pos).1 = false) : (Utf8.decode s pos).2 = 1 ∧ TokByte (s[pos]'h).toNat := by
  have hd' : (Utf8.decode s pos).1 < 128 ∧ (Utf8.decode s pos).1 ≠ 42 := by
    generalize (Utf8.decode s pos).1 = r at hd
    unfold offToken at hd
    unfold tokenRune at hd
    simp at hd
    omega
  clear hd
  rw [Lib.decode_at] at hd' ⊢
  rw [get_bang s pos h] at hd' ⊢
  rcases Lib.decodeN_cases (s.size - pos) (s[pos]'h).toNat (s.get! (pos + 1)).toNat (s.get! (pos + 2)).toNat (s.get! (pos + 3)).toNat with ⟨h1, e⟩ | ⟨_, _, _, h1, e⟩ | ⟨_, _, _, _, h1, e⟩ | ⟨h1, _⟩ | e
  · rw [e] at hd' ⊢
    exact ⟨rfl, hd'⟩
  · rw [e] at hd'; exfalso; dsimp only at hd'; omega
  · rw [e] at hd'; exfalso; dsimp only at hd'; omega
  · exfalso; omega
  · rw [e] at hd'; exfalso; dsimp only at hd'; omega

theorem tok_from (s : ByteArray) : ∀ (f pos : Nat), s.size ≤ pos + f → ∀ j (h : j < s.size), pos ≤ j → (Lib.idxFuncFrom offToken true s f pos < 0 ∨ (j : Int) < Lib.idxFuncFrom offToken true s f pos) → TokByte (s[j]'h).toNat
  | 0, pos, hf, j, h, hp, _ => by omega
  | f + 1, pos, hf, j, h, hp, hx => by
    have hps : pos < s.size := by omega
    unfold Lib.idxFuncFrom at hx
    rw [if_pos hps] at hx
    by_cases hd : offToken (Utf8.decode s pos).1 = true
    · rw [if_pos hd] at hx; omega
    · rw [if_neg hd] at hx
      have hd' : offToken (Utf8.decode s pos).1 = false := by simpa using hd
      obtain ⟨hw, h1⟩ := decode_tok s pos hps hd'
      rw [hw] at hx
      by_cases e : j = pos
      · subst e; exact h1
      · exact tok_from s f (pos + 1) (by omega) j h (by omega) hx

theorem token_bytes (s : ByteArray) (hne : s ≠ ⟨#[42]⟩) : ∀ j (h : j < (tokenOf s).size), TokByte ((tokenOf s)[j]'h).toNat := by
  unfold tokenOf
  rw [if_neg hne]
  rcases Lib.idxFunc_range offToken true s with h0 | ⟨h0, h1⟩
  · rw [if_pos (by omega)]
    intro j h
    exact tok_from s s.size 0 (by omega) j h (by omega) (.inl (by show Lib.idxFunc offToken true s < 0; omega))
  · rw [if_neg (by omega)]
    intro j h
    rw [size_ext s 0 _ (by omega) (by omega)] at h
    rw [get_ext s 0 _ j (by omega) (by omega)]
    have := tok_from s s.size 0 (by omega) j (by omega) (by omega) (.inr (by show (j : Int) < Lib.idxFunc offToken true s; omega))
    simpa using this

theorem token_size (s : ByteArray) : (tokenOf s).size ≤ s.size := by
  unfold tokenOf
  split
  · exact Nat.le_refl _
  · split
    · exact Nat.le_refl _
    · simp [ByteArray.size_extract]; omega

theorem token_not_star (s : ByteArray) (h : s ≠ ⟨#[42]⟩) : tokenOf s ≠ ⟨#[42]⟩ := by
  intro e
  have hb := token_bytes s h
  rw [e] at hb
  exact (hb 0 (by decide)).2 rfl

theorem fold_star (a : ByteArray) (h : ∀ j (h : j < a.size), TokByte (a[j]'h).toNat) : foldE a ⟨#[42]⟩ = false := by
  unfold foldE
  cases hs : a.size with
  | zero =>
    unfold efA
    rw [hs]
    decide
  | succ f =>
    unfold efA
    have h0 := h 0 (by omega)
    rw [if_pos ⟨by omega, by decide⟩]
    have e : ((⟨#[42]⟩ : ByteArray).get! 0).toNat = 42 := by decide
    rw [e, if_neg (by omega), get_bang a 0 (by omega), if_neg (by have := h0.2; omega)]
    have : asciiPair (a[0]'(by omega)).toNat 42 = false := by
      unfold asciiPair
      have hm : ¬ (65 ≤ min (a[0]'(by omega)).toNat 42) := by omega
      rw [decide_eq_false hm]
      rfl
    rw [this]
    rfl

structure St where
  own : List (Bool × ByteArray) × Int
  star : List (Bool × ByteArray) × Int
  found : Bool
  toOwn : Bool
  toStar : Bool
  agents : Bool

def starB : ByteArray := ⟨#[42]⟩
/-- one field. -/
def fieldS (tok K V : ByteArray) (s : St) : St :=
  if K = keyAgent then
    if tokenOf V = starB then { s with toOwn := s.agents && s.toOwn, toStar := true, agents := true }
    else if foldE (tokenOf V) tok then { s with found := true, toOwn := true, toStar := s.agents && s.toStar, agents := true }
    else { s with toOwn := s.agents && s.toOwn, toStar := s.agents && s.toStar, agents := true }
  else if K = kAllow ∨ K = kDis ∨ K = kCrawl then
    { s with agents := false, own := if s.toOwn then addG K V s.own else s.own, star := if s.toStar then addG K V s.star else s.star }
  else s
def lineS (tok : ByteArray) (s : St) (L : List UInt8) : St := match fieldOf L with
  | some (k, v) => fieldS tok ⟨k.toArray⟩ ⟨v.toArray⟩ s
  | none => s
def stNew : St := ⟨([], 0), ([], 0), false, false, false, false⟩
def stAt (tok : ByteArray) (ls : List (List UInt8)) (i : Nat) : St := (ls.take i).foldl (lineS tok) stNew
def resOf (s : St) : List (Bool × ByteArray) × Int := if s.found then s.own else s.star
/-- parseRobots' answer. -/
def parseF (tok : ByteArray) (ls : List (List UInt8)) : List (Bool × ByteArray) × Int := resOf (ls.foldl (lineS tok) stNew)

theorem stAt_succ (tok : ByteArray) (ls : List (List UInt8)) (i : Nat) (L : List UInt8) (h : ls[i]? = some L) : stAt tok ls (i + 1) = lineS tok (stAt tok ls i) L := by
  unfold stAt
  rw [List.take_add_one, h]
  simp
theorem stAt_all (tok : ByteArray) (ls : List (List UInt8)) : stAt tok ls ls.length = ls.foldl (lineS tok) stNew := by
  unfold stAt; simp

theorem addG_len (k v : ByteArray) (g : List (Bool × ByteArray) × Int) : (addG k v g).1.length ≤ g.1.length + 1 := by
  unfold addG
  split
  · simp
  · split <;> simp
theorem lineS_len (tok : ByteArray) (s : St) (L : List UInt8) (n : Nat) (h1 : s.own.1.length ≤ n) (h2 : s.star.1.length ≤ n) : (lineS tok s L).own.1.length ≤ n + 1 ∧ (lineS tok s L).star.1.length ≤ n + 1 := by
  unfold lineS
  split
  · rename_i k v _
    unfold fieldS
    split
    · split
      · exact ⟨by simp; omega, by simp; omega⟩
      · split
        · exact ⟨by simp; omega, by simp; omega⟩
        · exact ⟨by simp; omega, by simp; omega⟩
    · split
      · have a1 := addG_len ⟨k.toArray⟩ ⟨v.toArray⟩ s.own
        have a2 := addG_len ⟨k.toArray⟩ ⟨v.toArray⟩ s.star
        constructor
        · show (if s.toOwn then _ else _ : List (Bool × ByteArray) × Int).1.length ≤ _
          split <;> omega
        · show (if s.toStar then _ else _ : List (Bool × ByteArray) × Int).1.length ≤ _
          split <;> omega
      · exact ⟨by omega, by omega⟩
  · exact ⟨by omega, by omega⟩
theorem stAt_len (tok : ByteArray) (ls : List (List UInt8)) : ∀ i, i ≤ ls.length → (stAt tok ls i).own.1.length ≤ i ∧ (stAt tok ls i).star.1.length ≤ i
  | 0, _ => by simp [stAt, stNew]
  | i + 1, h => by
    have ih := stAt_len tok ls i (by omega)
    rw [stAt_succ tok ls i _ (List.getElem?_eq_getElem (by omega))]
    exact lineS_len _ _ _ _ ih.1 ih.2
end Go.Proofs.Qxb6615497aGreatDoor
