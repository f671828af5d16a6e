import Derived.Test.Qxb6615497aGreatDoorG22
import Derived.Test.Qxb6615497aGreatDoorH2
/- FnParseRobotsStarTailExtendsStarOnly: the law's walk. -/
namespace Go.Proofs.Qxb6615497aGreatDoor
open Go Go.RowKit

theorem robotLines_len (l : List UInt8) : (robotLines l).length ≤ l.length + 1 := by
  obtain ⟨s, hs⟩ : ∃ s : ByteArray, s = ⟨(noBom l).toArray⟩ := ⟨_, rfl⟩
  have hsl : s.data.toList = noBom l := by rw [hs]
  have hss : s.size = (noBom l).length := by rw [hs]; show (noBom l).toArray.size = _; simp
  have hok := (spans_ok s).1
  have hare := spans_are s
  rw [hsl] at hare
  unfold robotLines
  rw [← hare, List.length_map]
  have := noBom_len l
  omega
theorem parseF_len (tok : ByteArray) (ls : List (List UInt8)) : (parseF tok ls).1.length ≤ ls.length := by
  have h := stAt_len tok ls ls.length (Nat.le_refl _)
  rw [stAt_all] at h
  unfold parseF resOf
  split
  · exact h.1
  · exact h.2
theorem tail_same : tailS.data.toList = tailL := by decide

theorem law5_walk (v : Value) (l : List UInt8) (tok : ByteArray) (w : World) (hA : ArgIs v l w) (hl : l.length ≤ 9223372036854775807) (ht : tok.size ≤ 9223372036854775807) (hT : AllTabs w) :
    Calls Tryz.prog 5 #[v, .string tok] w fun e w' => e = .returned (.bool true) ∧ Below w.heap.size w w' := by
  refine law5_of v l tok w hA hl ht (fun l tok => parseF tok (robotLines l)) (fun W v' l' tok' hb hB hl' ht' => zz_body v' tok' ht' l' hl' W hB (hT.below hb)) (fun h => ?_) ?_
  · have := robotLines_len l
    have h1 := parseF_len starS (robotLines l)
    have h2 := parseF_len tok (robotLines l)
    exact ⟨by omega, by omega⟩
  · rw [tail_same]
    exact plain_law tok l
end Go.Proofs.Qxb6615497aGreatDoor
