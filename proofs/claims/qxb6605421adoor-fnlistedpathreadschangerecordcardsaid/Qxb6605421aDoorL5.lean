import Derived.Test.Qxb6605421aDoorW2
namespace Go.Proofs.Qxb6605421aDoor
open Go.RowKit Go.Maps

/-- fields, a blank behind each, and what follows. -/
def joinSp : List ByteArray → ByteArray → ByteArray
  | [], p => p
  | a :: l, p => a ++ sp ++ joinSp l p

theorem joinSp_cons (a : ByteArray) (l : List ByteArray) (p : ByteArray) : (joinSp (a :: l) p).data.toList = a.data.toList ++ 32 :: (joinSp l p).data.toList := by
  simp [joinSp, sp]

theorem split_join (p : ByteArray) : ∀ l : List ByteArray, (∀ a ∈ l, ∀ c ∈ a.data.toList, c ≠ 32) → Lib.splitB sp 0 l.length (joinSp l p) = l ++ [p]
  | [], _ => rfl
  | a :: l, h => by
    rw [List.length_cons, split_step a (joinSp (a :: l) p) (joinSp l p) l.length (joinSp_cons a l p) (h a (by simp)), split_join p l (fun x hx => h x (by simp [hx]))]
    rfl

theorem take_snoc (s : ByteArray) (k : Nat) (h : k < s.size) : s.data.toList.take (k + 1) = s.data.toList.take k ++ [s[k]] := by
  rw [List.take_succ_eq_append_getElem (by simpa using h)]; rfl

/-- the two records. -/
def r1 (sub path : ByteArray) : ByteArray := { data := #[49, 32, 46, 77, 32] } ++ sub ++ { data := #[32, 49, 54, 48, 48, 48, 48, 32, 49, 54, 48, 48, 48, 48, 32, 49, 54, 48, 48, 48, 48, 32, 48, 49, 50, 51, 97, 98, 99, 100, 32, 52, 53, 54, 55, 101, 102, 48, 49, 32] } ++ path
def ru (sub path : ByteArray) : ByteArray := { data := #[117, 32, 85, 85, 32] } ++ sub ++ { data := #[32, 49, 48, 48, 54, 52, 52, 32, 49, 48, 48, 54, 52, 52, 32, 49, 48, 48, 54, 52, 52, 32, 49, 48, 48, 54, 52, 52, 32, 48, 49, 50, 51, 97, 98, 99, 100, 32, 52, 53, 54, 55, 101, 102, 48, 49, 32, 56, 57, 97, 98, 50, 51, 52, 53, 32] } ++ path
def l1 (sub : ByteArray) : List ByteArray := [{ data := #[49] }, { data := #[46, 77] }, sub, { data := #[49, 54, 48, 48, 48, 48] }, { data := #[49, 54, 48, 48, 48, 48] }, { data := #[49, 54, 48, 48, 48, 48] }, { data := #[48, 49, 50, 51, 97, 98, 99, 100] }, { data := #[52, 53, 54, 55, 101, 102, 48, 49] }]
def lu (sub : ByteArray) : List ByteArray := [{ data := #[117] }, { data := #[85, 85] }, sub, { data := #[49, 48, 48, 54, 52, 52] }, { data := #[49, 48, 48, 54, 52, 52] }, { data := #[49, 48, 48, 54, 52, 52] }, { data := #[49, 48, 48, 54, 52, 52] }, { data := #[48, 49, 50, 51, 97, 98, 99, 100] }, { data := #[52, 53, 54, 55, 101, 102, 48, 49] }, { data := #[56, 57, 97, 98, 50, 51, 52, 53] }]
theorem r1_join (sub path : ByteArray) : r1 sub path = joinSp (l1 sub) path := by
  apply ba_ext
  simp [r1, joinSp, l1, sp]
theorem ru_join (sub path : ByteArray) : ru sub path = joinSp (lu sub) path := by
  apply ba_ext
  simp [ru, joinSp, lu, sp]
theorem r1_data (sub path : ByteArray) : (r1 sub path).data.toList = 49 :: 32 :: (joinSp (l1 sub).tail path).data.toList := by
  rw [r1_join]; exact joinSp_cons _ _ _
theorem ru_data (sub path : ByteArray) : (ru sub path).data.toList = 117 :: 32 :: (joinSp (lu sub).tail path).data.toList := by
  rw [ru_join]; exact joinSp_cons _ _ _
theorem l1_no (sub : ByteArray) (h : ∀ c ∈ sub.data.toList, c ≠ 32) : ∀ a ∈ l1 sub, ∀ c ∈ a.data.toList, c ≠ 32 := by
  intro a ha
  simp only [l1, List.mem_cons, List.mem_nil_iff, or_false] at ha
  rcases ha with rfl | rfl | rfl | rfl | rfl | rfl | rfl | rfl <;> first | exact h | decide
theorem lu_no (sub : ByteArray) (h : ∀ c ∈ sub.data.toList, c ≠ 32) : ∀ a ∈ lu sub, ∀ c ∈ a.data.toList, c ≠ 32 := by
  intro a ha
  simp only [lu, List.mem_cons, List.mem_nil_iff, or_false] at ha
  rcases ha with rfl | rfl | rfl | rfl | rfl | rfl | rfl | rfl | rfl | rfl <;> first | exact h | decide
theorem r1_size (sub path : ByteArray) (h1 : sub.size ≤ 65536) (h2 : path.size ≤ 524288) : (r1 sub path).size ≤ 16777216 ∧ 8 ≤ (r1 sub path).size := by
  unfold r1
  simp only [ByteArray.size_append]
  have e1 : ({ data := #[49, 32, 46, 77, 32] } : ByteArray).size = 5 := rfl
  have e2 : ({ data := #[32, 49, 54, 48, 48, 48, 48, 32, 49, 54, 48, 48, 48, 48, 32, 49, 54, 48, 48, 48, 48, 32, 48, 49, 50, 51, 97, 98, 99, 100, 32, 52, 53, 54, 55, 101, 102, 48, 49, 32] } : ByteArray).size = 40 := rfl
  rw [e1, e2]
  omega
theorem ru_size (sub path : ByteArray) (h1 : sub.size ≤ 65536) (h2 : path.size ≤ 524288) : (ru sub path).size ≤ 16777216 ∧ 10 ≤ (ru sub path).size := by
  unfold ru
  simp only [ByteArray.size_append]
  have e1 : ({ data := #[117, 32, 85, 85, 32] } : ByteArray).size = 5 := rfl
  have e2 : ({ data := #[32, 49, 48, 48, 54, 52, 52, 32, 49, 48, 48, 54, 52, 52, 32, 49, 48, 48, 54, 52, 52, 32, 49, 48, 48, 54, 52, 52, 32, 48, 49, 50, 51, 97, 98, 99, 100, 32, 52, 53, 54, 55, 101, 102, 48, 49, 32, 56, 57, 97, 98, 50, 51, 52, 53, 32] } : ByteArray).size = 56 := rfl
  rw [e1, e2]
  omega

theorem law5_calls (u : Bool) (sub path : ByteArray) (m : Int) (w : World) (hm : w.cell? ⟨3, 0, none⟩ = some (.int .i64 m)) (h1 : sub.size ≤ 65536) (h2 : path.size ≤ 524288) (h : ∀ c ∈ sub.data.toList, c ≠ 32) :
    Calls Tryd.prog 15 #[.string (if u then ru sub path else r1 sub path)] w fun e w' => e = .returned (.tuple #[.string path, .bool (Lib.hasPrefix sub.data.toList [83]), .bool true]) ∧ Below w.heap.size w w' := by
  cases u with
  | false =>
    refine zzListed _ _ _ w ?_
    exact listed_c 49 8 (r1 sub path) sub path _ (l1 sub ++ [path]) m w (.inl ⟨rfl, rfl⟩) (r1_data sub path) (r1_size sub path h1 h2).2 (r1_size sub path h1 h2).1 (by rw [r1_join]; exact split_join path (l1 sub) (l1_no sub h)) rfl rfl rfl hm
  | true =>
    refine zzListed _ _ _ w ?_
    exact listed_c 117 10 (ru sub path) sub path _ (lu sub ++ [path]) m w (.inr ⟨rfl, rfl⟩) (ru_data sub path) (ru_size sub path h1 h2).2 (ru_size sub path h1 h2).1 (by rw [ru_join]; exact split_join path (lu sub) (lu_no sub h)) rfl rfl rfl hm

/-- does the submodule field start with S? -/
theorem s_cases (s : ByteArray) : (s.size = 0 ∧ Lib.hasPrefix s.data.toList [83] = false) ∨ (∃ h : 0 < s.size, (s[0].toNat : Int) = 83 ∧ Lib.hasPrefix s.data.toList [83] = true) ∨ (∃ h : 0 < s.size, (s[0].toNat : Int) ≠ 83 ∧ Lib.hasPrefix s.data.toList [83] = false) := by
  cases hl : s.data.toList with
  | nil =>
    left
    have : s.data.toList.length = 0 := by rw [hl]; rfl
    exact ⟨by simpa using this, rfl⟩
  | cons x l =>
    right
    have hpos : 0 < s.size := by
      have : s.data.toList.length = l.length + 1 := by rw [hl]; rfl
      simp at this
      omega
    have e : s[0] = x := by
      have : s.data.toList[0]? = some s[0] := by rw [List.getElem?_eq_getElem (by simpa using hpos)]; rfl
      rw [hl] at this
      simpa using this.symm
    by_cases hx : x = 83
    · left
      refine ⟨hpos, by rw [e, hx]; rfl, ?_⟩
      subst hx
      simp [Lib.hasPrefix]
    · right
      refine ⟨hpos, ?_, ?_⟩
      · rw [e]
        intro hc
        exact hx (UInt8.toNat_inj.1 (by show x.toNat = 83; omega))
      · simp only [Lib.hasPrefix, List.isPrefixOf, Bool.and_true]
        simpa using fun e2 => hx e2.symm

set_option maxRecDepth 100000 in
set_option maxHeartbeats 2000000 in
theorem law5_any (u : Bool) (s path : ByteArray) (m : Int) (w : World) (hm : w.cell? ⟨3, 0, none⟩ = some (.int .i64 m)) (hs : s.size ≤ maxLen) (hp : path.size ≤ maxLen) :
    Calls Tryd.prog 5 #[.bool u, .string s, .string path] w fun e w' => e = .returned (.bool true) ∧ Below w.heap.size w w' := by
  have HZ := hide (zzBytes14_any u s path w hs hp)
  have HC := hide (law5_calls u s path m w hm)
  unfold maxLen at hp hs
  clear hm
  cases u
  all_goals
    go_enter Tryd.func5, Tryd.ntmps5
    go_wp2_with fail
    refine (unhide HZ).mono ?_
    rintro e w' ⟨z, rfl, rfl⟩
    clear HZ
    cases z with
    | false =>
      go_wp2
      go_ret
      exact ⟨rfl, Below.refl _ _⟩
    | true =>
      by_cases hs2 : s.size ≤ 65536
      case neg =>
        go_wp2
        go_ret
        exact ⟨rfl, Below.refl _ _⟩
      by_cases hp2 : path.size ≤ 524288
      case neg =>
        go_wp2
        go_ret
        exact ⟨rfl, Below.refl _ _⟩
      clear hp hs
      go_wp2
      go_loop [7] (fun i => ∃ k : Nat, k ≤ s.size ∧ i = .int .i64 k ∧ Hid (∀ c ∈ s.data.toList.take k, c ≠ 32)) (fun i => s.size - (intOf i).toNat)
      case atStart => exact ⟨0, Nat.zero_le _, rfl, hide (by simp)⟩
      case round =>
        obtain ⟨k, hk, rfl, HA⟩ := hrel
        by_cases hlt : k < s.size
        · have HS : Hid ((s[k].toNat : Int) ≠ 32 → ∀ c ∈ s.data.toList.take (k + 1), c ≠ 32) := by
            refine hide (fun a1 c hm => ?_)
            rw [take_snoc s k hlt, List.mem_append, List.mem_singleton] at hm
            rcases hm with hm | rfl
            · exact unhide HA c hm
            · exact fun e => a1 (by rw [e]; rfl)
          clear HA
          by_cases h32 : (s[k].toNat : Int) = 32
          · clear HS
            go_wp2
            go_ret
            exact ⟨rfl, Below.refl _ _⟩
          · have HA2 := hide (unhide HS h32)
            clear HS
            go_wp2
            go_round
            case rel => exact ⟨k + 1, by omega, by go_num, HA2⟩
            case measure => simp [intOf]; omega
        · have HALL : Hid (∀ c ∈ s.data.toList, c ≠ 32) := by
            have := unhide HA
            rw [List.take_of_length_le (by simp; omega)] at this
            exact this
          have HC2 := hide (unhide HC hs2 hp2 (unhide HALL))
          clear HA HC HALL
          simp only [Bool.false_eq_true, if_true, if_false] at HC2
          first | unfold ru at HC2 | unfold r1 at HC2
          rcases s_cases s with ⟨h0, hp0⟩ | ⟨h0, h83, hp0⟩ | ⟨h0, h83, hp0⟩
          all_goals
            rw [hp0] at HC2
            clear hp0
            go_wp2_with fail
            refine (unhide HC2).mono ?_
            rintro e w2 ⟨rfl, hb⟩
            clear HC2
            go_wp2
            go_ret
            first | exact ⟨rfl, hb⟩ | exact ⟨congrArg (fun z => Ending.returned (Value.bool z)) (by simpa using h83), hb⟩
end Go.Proofs.Qxb6605421aDoor
