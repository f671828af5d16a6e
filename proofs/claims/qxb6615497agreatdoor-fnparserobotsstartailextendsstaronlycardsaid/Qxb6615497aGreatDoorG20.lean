import Derived.Test.Qxb6615497aGreatDoorG18
import Derived.Test.Qxb6615497aGreatDoorG19
/- the plain law. -/
namespace Go.Proofs.Qxb6615497aGreatDoor
open Go Go.RowKit

def bomL : List UInt8 := [239, 187, 191]
def noBom (l : List UInt8) : List UInt8 := if Lib.hasPrefix l bomL then l.drop 3 else l
def allowL : List UInt8 := [65, 108, 108, 111, 119, 58]
def uaL : List UInt8 := [85, 115, 101, 114, 45, 97, 103, 101, 110, 116, 58, 32, 42]
def disL : List UInt8 := [68, 105, 115, 97, 108, 108, 111, 119, 58, 32, 47, 122, 122]
def tail0 : List UInt8 := allowL ++ [10] ++ uaL ++ [10] ++ disL ++ [10]
def tailL : List UInt8 := 10 :: tail0
/-- the lines that parseRobots reads. -/
def robotLines (l : List UInt8) : List (List UInt8) := linesL (noBom l)

theorem tail_lines : linesL tail0 = [allowL, uaL, disL] := by decide +kernel

theorem noBom_tail (l : List UInt8) : noBom (l ++ tailL) = noBom l ++ tailL := by
  unfold noBom
  match l with
  | [] => decide
  | [a] =>
    have h1 : Lib.hasPrefix ([a] ++ tailL) bomL = false := by simp [Lib.hasPrefix, bomL, tailL, List.isPrefixOf]
    have h2 : Lib.hasPrefix [a] bomL = false := by simp [Lib.hasPrefix, bomL, List.isPrefixOf]
    rw [h1, h2]; rfl
  | [a, b] =>
    have h1 : Lib.hasPrefix ([a, b] ++ tailL) bomL = false := by simp [Lib.hasPrefix, bomL, tailL, List.isPrefixOf]
    have h2 : Lib.hasPrefix [a, b] bomL = false := by simp [Lib.hasPrefix, bomL, List.isPrefixOf]
    rw [h1, h2]; rfl
  | a :: b :: c :: r =>
    have h : Lib.hasPrefix (a :: b :: c :: r ++ tailL) bomL = Lib.hasPrefix (a :: b :: c :: r) bomL := by simp [Lib.hasPrefix, bomL, List.isPrefixOf]
    rw [h]
    split <;> rfl

theorem robotLines_tail (l : List UInt8) : robotLines (l ++ tailL) = robotLines l ++ [allowL, uaL, disL] := by
  unfold robotLines
  rw [noBom_tail]
  unfold linesL tailL
  rw [linesGo_cut]
  have := tail_lines
  unfold linesL at this
  rw [this]

theorem field_allow : fieldOf allowL = some (kAllow.data.toList, []) := by
  have e : Lib.indexByte allowL 35 = -1 := by decide
  have e2 : noHash allowL = allowL := by unfold noHash; rw [e]; rfl
  unfold fieldOf
  rw [e2, show Lib.indexByte allowL 58 = 5 by decide]
  rw [if_pos (by decide), Lib.toLowerD_ascii _ (by decide)]
  decide
theorem field_ua : fieldOf uaL = some (keyAgent.data.toList, [42]) := by
  have e : Lib.indexByte uaL 35 = -1 := by decide
  have e2 : noHash uaL = uaL := by unfold noHash; rw [e]; rfl
  unfold fieldOf
  rw [e2, show Lib.indexByte uaL 58 = 10 by decide]
  rw [if_pos (by decide), Lib.toLowerD_ascii _ (by decide)]
  decide
theorem field_dis : fieldOf disL = some (kDis.data.toList, [47, 122, 122]) := by
  have e : Lib.indexByte disL 35 = -1 := by decide
  have e2 : noHash disL = disL := by unfold noHash; rw [e]; rfl
  unfold fieldOf
  rw [e2, show Lib.indexByte disL 58 = 8 by decide]
  rw [if_pos (by decide), Lib.toLowerD_ascii _ (by decide)]
  decide

def zzB : ByteArray := ⟨#[47, 122, 122]⟩

theorem three_lines (tok : ByteArray) (s : St) : [allowL, uaL, disL].foldl (lineS tok) s = ⟨s.own, (s.star.1 ++ [(false, zzB)], s.star.2), s.found, false, true, false⟩ := by
  obtain ⟨own, star, found, toOwn, toStar, agents⟩ := s
  have h1 : lineS tok ⟨own, star, found, toOwn, toStar, agents⟩ allowL = ⟨own, star, found, toOwn, toStar, false⟩ := by
    unfold lineS
    rw [field_allow]
    have := fS_key tok kAllow ⟨#[]⟩ own star found toOwn toStar agents (.inl rfl)
    have ha : ∀ g, addG kAllow ⟨#[]⟩ g = g := fun g => by
      unfold addG
      rw [if_neg (by decide), if_pos (by rw [Lib.toList_data]; decide)]
    simp only [ha, ite_self] at this
    exact this
  have h2 : lineS tok ⟨own, star, found, toOwn, toStar, false⟩ uaL = ⟨own, star, found, false, true, true⟩ := by
    unfold lineS
    rw [field_ua]
    exact fS_star tok ⟨#[42]⟩ own star found toOwn toStar false token_star
  have h3 : lineS tok ⟨own, star, found, false, true, true⟩ disL = ⟨own, (star.1 ++ [(false, zzB)], star.2), found, false, true, false⟩ := by
    unfold lineS
    rw [field_dis]
    have := fS_key tok kDis zzB own star found false true true (.inr (.inl rfl))
    have ha : addG kDis zzB star = (star.1 ++ [(false, zzB)], star.2) := by
      unfold addG
      rw [if_neg (by decide), if_neg (by rw [Lib.toList_data]; decide)]
      have : (kDis == kAllow) = false := by decide
      rw [this]
    simp only [ha, Bool.false_eq_true, if_false, if_true] at this
    exact this
  simp only [List.foldl_cons, List.foldl_nil, h1, h2, h3]

/-- the star's group does not hang on the token. -/
def SameStar (s s' : St) : Prop := s.star = s'.star ∧ s.toStar = s'.toStar ∧ s.agents = s'.agents
theorem same_line (tok tok' : ByteArray) (s s' : St) (L : List UInt8) (h : SameStar s s') : SameStar (lineS tok s L) (lineS tok' s' L) := by
  obtain ⟨h1, h2, h3⟩ := h
  unfold lineS
  split
  · rename_i k v _
    unfold fieldS
    split
    · split
      · exact ⟨h1, rfl, rfl⟩
      · split <;> split <;> exact ⟨h1, by simp [h2, h3], rfl⟩
    · split
      · exact ⟨by simp [h1, h2], h2, rfl⟩
      · exact ⟨h1, h2, h3⟩
  · exact ⟨h1, h2, h3⟩
theorem same_fold (tok tok' : ByteArray) : ∀ (ls : List (List UInt8)) (s s' : St), SameStar s s' → SameStar (ls.foldl (lineS tok) s) (ls.foldl (lineS tok') s')
  | [], _, _, h => h
  | L :: r, s, s', h => same_fold tok tok' r _ _ (same_line tok tok' s s' L h)

theorem star_not_found : ∀ (ls : List (List UInt8)) (s : St), s.found = false → (ls.foldl (lineS starB) s).found = false
  | [], _, h => h
  | L :: r, s, h => by
    refine star_not_found r _ ?_
    unfold lineS
    split
    · rename_i k v _
      unfold fieldS
      split
      · split
        · exact h
        · rename_i hs
          have hV : (⟨v.toArray⟩ : ByteArray) ≠ ⟨#[42]⟩ := by intro e; rw [e] at hs; exact hs token_star
          have hf : foldE (tokenOf ⟨v.toArray⟩) starB = false := fold_star _ (token_bytes _ hV)
          rw [if_neg (by rw [hf]; decide)]
          exact h
      · split
        · exact h
        · exact h
    · exact h

theorem plain_law (tok : ByteArray) (l : List UInt8) :
    parseF starB (robotLines (l ++ tailL)) = ((parseF starB (robotLines l)).1 ++ [(false, zzB)], (parseF starB (robotLines l)).2) ∧
    (parseF tok (robotLines (l ++ tailL)) = parseF tok (robotLines l) ∨
      (parseF tok (robotLines l) = parseF starB (robotLines l) ∧ parseF tok (robotLines (l ++ tailL)) = ((parseF starB (robotLines l)).1 ++ [(false, zzB)], (parseF starB (robotLines l)).2))) := by
  rw [robotLines_tail]
  generalize robotLines l = ls
  unfold parseF
  rw [List.foldl_append, List.foldl_append, three_lines, three_lines]
  have hs := star_not_found ls stNew rfl
  have hsame := same_fold tok starB ls stNew stNew ⟨rfl, rfl, rfl⟩
  generalize ls.foldl (lineS starB) stNew = S at hs hsame ⊢
  generalize ls.foldl (lineS tok) stNew = T at hsame ⊢
  unfold resOf
  dsimp only
  rw [hs]
  simp only [Bool.false_eq_true, if_false]
  refine ⟨trivial, ?_⟩
  cases hf : T.found with
  | true => left; rfl
  | false =>
    right
    simp only [Bool.false_eq_true, if_false]
    rw [hsame.1]
    exact ⟨rfl, rfl⟩
end Go.Proofs.Qxb6615497aGreatDoor
