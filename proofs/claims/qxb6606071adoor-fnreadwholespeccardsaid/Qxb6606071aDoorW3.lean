import Derived.Test.Qxb6606071aDoorQ7
import Derived.Deep.LoopGhost
namespace Go.Proofs.Qxb6606071aDoor
open Go.RowKit

def resObj7 : Obj := Obj.cells #[.string { data := #[] }, .string { data := #[] }, .string { data := #[] }, .string { data := #[] }, .string { data := #[] }, .string { data := #[] }, .bool false] 24

theorem trim_at (s : ByteArray) (k : Nat) (h1 : ∀ j, j < k → ∃ c, s.data.toList[j]? = some c ∧ Pl.isBlank c = true) (h2 : ∀ c, s.data.toList[k]? = some c → Pl.isBlank c = false) : (s.extract k s.size).data.toList = trim s.data.toList := by
  have e : (s.extract k s.size).data.toList = s.data.toList.drop k := by simp [List.take_of_length_le]
  rw [e]
  unfold trim
  generalize s.data.toList = l at h1 h2
  clear e
  induction k generalizing l with
  | zero =>
    cases l with
    | nil => rfl
    | cons c l => simp [List.dropWhile, h2 c rfl]
  | succ k ih =>
    cases l with
    | nil => obtain ⟨c, hc, _⟩ := h1 0 (by omega); simp at hc
    | cons c l =>
      obtain ⟨d, hd, hb⟩ := h1 0 (by omega)
      simp at hd
      subst hd
      simp only [List.drop_succ_cons, List.dropWhile, hb]
      exact ih l (fun j hj => by simpa using h1 (j + 1) (by omega)) (fun x hx => h2 x (by simpa using hx))

theorem run_none {c : UInt8} {l : List UInt8} {i st : Nat} {la p e : Int} (h : Pl.step st c = none) : Pl.run (c :: l) i st la p e = (la, p, e) := by
  unfold Pl.run; rw [h]
theorem run_some {c : UInt8} {l : List UInt8} {i st n : Nat} {la p e : Int} (h : Pl.step st c = some n) : Pl.run (c :: l) i st la p e = Pl.run l (i + 1) n (if n = 2 ∨ n = 4 ∨ n = 7 then (i : Int) + 1 else la) (if n = 3 ∨ (st = 2 ∧ n = 4) then (i : Int) else p) (if n = 5 then (i : Int) else e) := by
  conv => lhs; unfold Pl.run; rw [h]
theorem run_cons (T : ByteArray) (i : Nat) (h : i < T.size) : T.data.toList.drop i = T[i] :: T.data.toList.drop (i + 1) := by
  rw [List.drop_eq_getElem_cons (by simpa using h)]; rfl


/-- the two blocks that the model makes. -/
structure Two (w W : World) : Prop where
  below : Below w.heap.size w W
  c : ∀ j, j < 7 → ∃ v, W.cell? ⟨w.heap.size, j, none⟩ = some v
  d : ∀ j, j < 6 → W.cell? ⟨w.heap.size + 1, j, none⟩ = some (.string { data := #[] })
  d6 : W.cell? ⟨w.heap.size + 1, 6, none⟩ = some (.bool false)
  fc : ∀ j, W.frozen? ⟨w.heap.size, j, none⟩ = false
  fd : ∀ j, W.frozen? ⟨w.heap.size + 1, j, none⟩ = false
theorem two_blocks (w : World) : Two w ((w.alloc resObj7).alloc resObj7) := by
  have hz : (w.alloc resObj7).heap.size = w.heap.size + 1 := Array.size_push ..
  have hB : Below (w.heap.size + 1) (w.alloc resObj7) ((w.alloc resObj7).alloc resObj7) := (Below.refl _ _).alloc (Nat.le_of_eq hz.symm) _
  refine ⟨((Below.refl w.heap.size w).alloc (Nat.le_refl _) _).trans (hB.mono (by omega)), ?_, ?_, ?_, ?_, ?_⟩
  · intro j hj
    rw [hB.cell (Nat.lt_succ_self _)]
    unfold resObj7
    rw [World.cell?_alloc_mark]
    match j, hj with
    | 0, _ => exact ⟨_, rfl⟩
    | 1, _ => exact ⟨_, rfl⟩
    | 2, _ => exact ⟨_, rfl⟩
    | 3, _ => exact ⟨_, rfl⟩
    | 4, _ => exact ⟨_, rfl⟩
    | 5, _ => exact ⟨_, rfl⟩
    | 6, _ => exact ⟨_, rfl⟩
  · intro j hj
    rw [← hz]
    generalize w.alloc resObj7 = W
    unfold resObj7
    rw [World.cell?_alloc_mark]
    match j, hj with
    | 0, _ => rfl
    | 1, _ => rfl
    | 2, _ => rfl
    | 3, _ => rfl
    | 4, _ => rfl
    | 5, _ => rfl
  · rw [← hz]
    generalize w.alloc resObj7 = W
    unfold resObj7
    rw [World.cell?_alloc_mark]
    rfl
  · intro j
    rw [hB.frozen (Nat.lt_succ_self _)]
    unfold resObj7
    rw [World.frozen?_alloc_mark]
    simp
  · intro j
    rw [← hz]
    generalize w.alloc resObj7 = W
    unfold resObj7
    rw [World.frozen?_alloc_mark]
    simp

set_option maxRecDepth 100000 in
set_option maxHeartbeats 20000000 in
theorem model_any (s : ByteArray) (w : World) (hs : s.size ≤ 1048576) :
    Calls Tryd.prog 7 #[.string s] w fun e w' => ∃ T a b c d t r fd, Hid (T.data.toList = trim s.data.toList) ∧ Hid ((a, b, c, d, t, r, fd) = partsOf T) ∧ e = .returned (.agg #[.string a, .string b, .string c, .string d, .string t, .string r, .bool fd]) ∧ Below w.heap.size w w' := by
  have HB := hide isBlank_any
  have HDG := hide isDigit_any
  go_enter Tryd.func7, Tryd.ntmps7
  go_upto_block 0 with fail
  go_cut [3] from 16 to 27 (fun v wx => ∃ k : Nat, k ≤ s.size ∧ v = .int .i64 k ∧ Hid ((s.extract k s.size).data.toList = trim s.data.toList) ∧ wx = w.alloc resObj7)
  case first =>
    go_wp2_with fail
    go_loop [3] (fun v => ∃ k : Nat, k ≤ s.size ∧ v = .int .i64 k ∧ Hid (∀ j, j < k → ∃ c, s.data.toList[j]? = some c ∧ Pl.isBlank c = true)) (fun v => s.size - (intOf v).toNat)
    case atStart => exact ⟨0, Nat.zero_le _, rfl, hide (fun j hj => absurd hj (Nat.not_lt_zero j))⟩
    case round =>
      obtain ⟨k, hk, rfl, HA⟩ := hrel
      rcases byte_at s k with ⟨h, e⟩ | ⟨h, e⟩
      · have HT := hide (trim_at s k (unhide HA) (fun c hc => by rw [e] at hc; cases hc))
        clear e HA
        go_wp2_with fail
        go_meet
        exact ⟨k, hk, rfl, HT, rfl⟩
      · have HC := hide (isBlank_any s[k])
        cases hb : Pl.isBlank s[k] with
        | false =>
          have HT := hide (trim_at s k (unhide HA) (fun c hc => by rw [e] at hc; rw [← Option.some.inj hc]; exact hb))
          rw [hb] at HC
          clear e HA hb
          go_wp2_with (go_at_call 13; refine (unhide HC _).mono ?_; rintro e w' ⟨rfl, rfl⟩)
          go_meet
          exact ⟨k, hk, rfl, HT, rfl⟩
        | true =>
          have HA2 : Hid (∀ j, j < k + 1 → ∃ c, s.data.toList[j]? = some c ∧ Pl.isBlank c = true) := by
            refine hide (fun j hj => ?_)
            by_cases ej : j = k
            · subst ej; exact ⟨_, e, hb⟩
            · exact unhide HA j (by omega)
          rw [hb] at HC
          clear e HA hb
          go_wp2_with (go_at_call 13; refine (unhide HC _).mono ?_; rintro e w' ⟨rfl, rfl⟩)
          go_round
          case rel => exact ⟨k + 1, by omega, by go_num, HA2⟩
          case measure => simp [intOf]; omega
  case rest =>
    obtain ⟨k, hk, rfl, HT, rfl⟩ := hcut
    have hTs : (s.extract k s.size).size ≤ 1048576 := by rw [ByteArray.size_extract]; omega
    go_upto_block 2 with fail
    generalize s.extract k s.size = T at *
    have HR0 : Hid (Pl.run (T.data.toList.drop 0) 0 0 (-1) (-1) (-1) = Pl.run T.data.toList 0 0 (-1) (-1) (-1)) := hide rfl
    go_cut [5, 6, 7, 8, 9, 10, 11] from 31 to 131 (fun v5 v6 v7 v8 v9 v10 v11 wx => ∃ la p e : Int, v6 = .int .i64 la ∧ v7 = .int .i64 p ∧ v8 = .int .i64 e ∧ Hid ((la, p, e) = Pl.run T.data.toList 0 0 (-1) (-1) (-1)) ∧ wx = w.alloc resObj7)
    case first =>
      go_wp2_with fail
      go_loop [5, 6, 7, 8, 9, 10, 11] (fun v5 v6 v7 v8 v9 v10 v11 => ∃ (i st : Nat) (la p e : Int), i ≤ T.size ∧ st ≤ 7 ∧ v5 = .int .i64 st ∧ v6 = .int .i64 la ∧ v7 = .int .i64 p ∧ v8 = .int .i64 e ∧ v9 = .int .i64 i ∧ Hid (Pl.run (T.data.toList.drop i) i st la p e = Pl.run T.data.toList 0 0 (-1) (-1) (-1))) (fun v5 v6 v7 v8 v9 v10 v11 => T.size - (intOf v9).toNat)
      case atStart => exact ⟨0, 0, -1, -1, -1, Nat.zero_le _, Nat.zero_le _, rfl, rfl, rfl, rfl, rfl, HR0⟩
      case round =>
        clear HR0 HT
        obtain ⟨i, st, la, p, e, hi, hst, rfl, rfl, rfl, rfl, rfl, HR⟩ := hrel
        by_cases hlt : i < T.size
        · rw [run_cons T i hlt] at HR
          have HDC := hide (isDigit_any T[i])
          have hst8 : st = 0 ∨ st = 1 ∨ st = 2 ∨ st = 3 ∨ st = 4 ∨ st = 5 ∨ st = 6 ∨ st = 7 := by omega
          clear hst
          rcases hst8 with rfl | rfl | rfl | rfl | rfl | rfl | rfl | rfl
          · cases h43 : ((T[i].toNat : Int) == 43) with
            | true =>
              have HST : Pl.step 0 T[i] = some 1 := by simp [Pl.step, isSign_int, h43]
              have HN : Hid (Pl.run (T.data.toList.drop (i + 1)) (i + 1) 1 la p e = Pl.run T.data.toList 0 0 (-1) (-1) (-1)) := by
                rw [run_some HST] at HR
                exact HR
              clear HR
              clear HST
              go_wp2_with (go_at_call 14; refine (unhide HDC _).mono ?_; rintro e2 w2 ⟨rfl, rfl⟩)
              go_round
              case rel => exact ⟨i + 1, 1, la, p, e, by omega, by omega, rfl, rfl, rfl, rfl, by go_num, HN⟩
              case measure => simp [intOf]; omega
            | false =>
              cases h45 : ((T[i].toNat : Int) == 45) with
              | true =>
                have HST : Pl.step 0 T[i] = some 1 := by simp [Pl.step, isSign_int, h43, h45]
                have HN : Hid (Pl.run (T.data.toList.drop (i + 1)) (i + 1) 1 la p e = Pl.run T.data.toList 0 0 (-1) (-1) (-1)) := by
                  rw [run_some HST] at HR
                  exact HR
                clear HR
                clear HST
                go_wp2_with (go_at_call 14; refine (unhide HDC _).mono ?_; rintro e2 w2 ⟨rfl, rfl⟩)
                go_round
                case rel => exact ⟨i + 1, 1, la, p, e, by omega, by omega, rfl, rfl, rfl, rfl, by go_num, HN⟩
                case measure => simp [intOf]; omega
              | false =>
                cases hd : Pl.isDig T[i] with
                | true =>
                  have HST : Pl.step 0 T[i] = some 2 := by simp [Pl.step, isSign_int, h43, h45, hd]
                  have HN : Hid (Pl.run (T.data.toList.drop (i + 1)) (i + 1) 2 ((i : Int) + 1) p e = Pl.run T.data.toList 0 0 (-1) (-1) (-1)) := by
                    rw [run_some HST] at HR
                    exact HR
                  clear HR
                  rw [hd] at HDC
                  clear hd HST
                  go_wp2_with (go_at_call 14; refine (unhide HDC _).mono ?_; rintro e2 w2 ⟨rfl, rfl⟩)
                  go_round
                  case rel => exact ⟨i + 1, 2, ((i : Int) + 1), p, e, by omega, by omega, rfl, rfl, rfl, rfl, by go_num, HN⟩
                  case measure => simp [intOf]; omega
                | false =>
                  cases h46 : ((T[i].toNat : Int) == 46) with
                  | true =>
                    have k46 : (T[i] == 46) = true := (u8_beq T[i] 46 (by omega)).symm.trans h46
                    have HST : Pl.step 0 T[i] = some 3 := by simp [Pl.step, isSign_int, h43, h45, hd, k46]
                    have HN : Hid (Pl.run (T.data.toList.drop (i + 1)) (i + 1) 3 la (i : Int) e = Pl.run T.data.toList 0 0 (-1) (-1) (-1)) := by
                      rw [run_some HST] at HR
                      exact HR
                    clear HR
                    rw [hd] at HDC
                    clear hd HST k46
                    go_wp2_with (go_at_call 14; refine (unhide HDC _).mono ?_; rintro e2 w2 ⟨rfl, rfl⟩)
                    go_round
                    case rel => exact ⟨i + 1, 3, la, (i : Int), e, by omega, by omega, rfl, rfl, rfl, rfl, by go_num, HN⟩
                    case measure => simp [intOf]; omega
                  | false =>
                    have k46 : (T[i] == 46) = false := (u8_beq T[i] 46 (by omega)).symm.trans h46
                    have HST : Pl.step 0 T[i] = none := by simp [Pl.step, isSign_int, h43, h45, hd, k46]
                    rw [run_none HST] at HR
                    rw [hd] at HDC
                    clear hd HST k46
                    go_wp2_with (go_at_call 14; refine (unhide HDC _).mono ?_; rintro e2 w2 ⟨rfl, rfl⟩)
                    go_meet
                    exact ⟨la, p, e, rfl, rfl, rfl, HR, rfl⟩
          · cases hd : Pl.isDig T[i] with
            | true =>
              have HST : Pl.step 1 T[i] = some 2 := by simp [Pl.step, hd]
              have HN : Hid (Pl.run (T.data.toList.drop (i + 1)) (i + 1) 2 ((i : Int) + 1) p e = Pl.run T.data.toList 0 0 (-1) (-1) (-1)) := by
                rw [run_some HST] at HR
                exact HR
              clear HR
              rw [hd] at HDC
              clear hd HST
              go_wp2_with (go_at_call 14; refine (unhide HDC _).mono ?_; rintro e2 w2 ⟨rfl, rfl⟩)
              go_round
              case rel => exact ⟨i + 1, 2, ((i : Int) + 1), p, e, by omega, by omega, rfl, rfl, rfl, rfl, by go_num, HN⟩
              case measure => simp [intOf]; omega
            | false =>
              cases h46 : ((T[i].toNat : Int) == 46) with
              | true =>
                have k46 : (T[i] == 46) = true := (u8_beq T[i] 46 (by omega)).symm.trans h46
                have HST : Pl.step 1 T[i] = some 3 := by simp [Pl.step, hd, k46]
                have HN : Hid (Pl.run (T.data.toList.drop (i + 1)) (i + 1) 3 la (i : Int) e = Pl.run T.data.toList 0 0 (-1) (-1) (-1)) := by
                  rw [run_some HST] at HR
                  exact HR
                clear HR
                rw [hd] at HDC
                clear hd HST k46
                go_wp2_with (go_at_call 14; refine (unhide HDC _).mono ?_; rintro e2 w2 ⟨rfl, rfl⟩)
                go_round
                case rel => exact ⟨i + 1, 3, la, (i : Int), e, by omega, by omega, rfl, rfl, rfl, rfl, by go_num, HN⟩
                case measure => simp [intOf]; omega
              | false =>
                have k46 : (T[i] == 46) = false := (u8_beq T[i] 46 (by omega)).symm.trans h46
                have HST : Pl.step 1 T[i] = none := by simp [Pl.step, hd, k46]
                rw [run_none HST] at HR
                rw [hd] at HDC
                clear hd HST k46
                go_wp2_with (go_at_call 14; refine (unhide HDC _).mono ?_; rintro e2 w2 ⟨rfl, rfl⟩)
                go_meet
                exact ⟨la, p, e, rfl, rfl, rfl, HR, rfl⟩
          · cases hd : Pl.isDig T[i] with
            | true =>
              have HST : Pl.step 2 T[i] = some 2 := by simp [Pl.step, hd]
              have HN : Hid (Pl.run (T.data.toList.drop (i + 1)) (i + 1) 2 ((i : Int) + 1) p e = Pl.run T.data.toList 0 0 (-1) (-1) (-1)) := by
                rw [run_some HST] at HR
                exact HR
              clear HR
              rw [hd] at HDC
              clear hd HST
              go_wp2_with (go_at_call 14; refine (unhide HDC _).mono ?_; rintro e2 w2 ⟨rfl, rfl⟩)
              go_round
              case rel => exact ⟨i + 1, 2, ((i : Int) + 1), p, e, by omega, by omega, rfl, rfl, rfl, rfl, by go_num, HN⟩
              case measure => simp [intOf]; omega
            | false =>
              cases h46 : ((T[i].toNat : Int) == 46) with
              | true =>
                have k46 : (T[i] == 46) = true := (u8_beq T[i] 46 (by omega)).symm.trans h46
                have HST : Pl.step 2 T[i] = some 4 := by simp [Pl.step, hd, k46]
                have HN : Hid (Pl.run (T.data.toList.drop (i + 1)) (i + 1) 4 ((i : Int) + 1) (i : Int) e = Pl.run T.data.toList 0 0 (-1) (-1) (-1)) := by
                  rw [run_some HST] at HR
                  exact HR
                clear HR
                rw [hd] at HDC
                clear hd HST k46
                go_wp2_with (go_at_call 14; refine (unhide HDC _).mono ?_; rintro e2 w2 ⟨rfl, rfl⟩)
                go_round
                case rel => exact ⟨i + 1, 4, ((i : Int) + 1), (i : Int), e, by omega, by omega, rfl, rfl, rfl, rfl, by go_num, HN⟩
                case measure => simp [intOf]; omega
              | false =>
                have k46 : (T[i] == 46) = false := (u8_beq T[i] 46 (by omega)).symm.trans h46
                cases h101 : ((T[i].toNat : Int) == 101) with
                | true =>
                  have HST : Pl.step 2 T[i] = some 5 := by simp [Pl.step, hd, k46, isE_int, h101]
                  have HN : Hid (Pl.run (T.data.toList.drop (i + 1)) (i + 1) 5 la p (i : Int) = Pl.run T.data.toList 0 0 (-1) (-1) (-1)) := by
                    rw [run_some HST] at HR
                    exact HR
                  clear HR
                  rw [hd] at HDC
                  clear hd HST k46
                  go_wp2_with (go_at_call 14; refine (unhide HDC _).mono ?_; rintro e2 w2 ⟨rfl, rfl⟩)
                  go_round
                  case rel => exact ⟨i + 1, 5, la, p, (i : Int), by omega, by omega, rfl, rfl, rfl, rfl, by go_num, HN⟩
                  case measure => simp [intOf]; omega
                | false =>
                  cases h69 : ((T[i].toNat : Int) == 69) with
                  | true =>
                    have HST : Pl.step 2 T[i] = some 5 := by simp [Pl.step, hd, k46, isE_int, h101, h69]
                    have HN : Hid (Pl.run (T.data.toList.drop (i + 1)) (i + 1) 5 la p (i : Int) = Pl.run T.data.toList 0 0 (-1) (-1) (-1)) := by
                      rw [run_some HST] at HR
                      exact HR
                    clear HR
                    rw [hd] at HDC
                    clear hd HST k46
                    go_wp2_with (go_at_call 14; refine (unhide HDC _).mono ?_; rintro e2 w2 ⟨rfl, rfl⟩)
                    go_round
                    case rel => exact ⟨i + 1, 5, la, p, (i : Int), by omega, by omega, rfl, rfl, rfl, rfl, by go_num, HN⟩
                    case measure => simp [intOf]; omega
                  | false =>
                    have HST : Pl.step 2 T[i] = none := by simp [Pl.step, hd, k46, isE_int, h101, h69]
                    rw [run_none HST] at HR
                    rw [hd] at HDC
                    clear hd HST k46
                    go_wp2_with (go_at_call 14; refine (unhide HDC _).mono ?_; rintro e2 w2 ⟨rfl, rfl⟩)
                    go_meet
                    exact ⟨la, p, e, rfl, rfl, rfl, HR, rfl⟩
          · cases hd : Pl.isDig T[i] with
            | true =>
              have HST : Pl.step 3 T[i] = some 4 := by simp [Pl.step, hd]
              have HN : Hid (Pl.run (T.data.toList.drop (i + 1)) (i + 1) 4 ((i : Int) + 1) p e = Pl.run T.data.toList 0 0 (-1) (-1) (-1)) := by
                rw [run_some HST] at HR
                exact HR
              clear HR
              rw [hd] at HDC
              clear hd HST
              go_wp2_with (go_at_call 14; refine (unhide HDC _).mono ?_; rintro e2 w2 ⟨rfl, rfl⟩)
              go_round
              case rel => exact ⟨i + 1, 4, ((i : Int) + 1), p, e, by omega, by omega, rfl, rfl, rfl, rfl, by go_num, HN⟩
              case measure => simp [intOf]; omega
            | false =>
              have HST : Pl.step 3 T[i] = none := by simp [Pl.step, hd]
              rw [run_none HST] at HR
              rw [hd] at HDC
              clear hd HST
              go_wp2_with (go_at_call 14; refine (unhide HDC _).mono ?_; rintro e2 w2 ⟨rfl, rfl⟩)
              go_meet
              exact ⟨la, p, e, rfl, rfl, rfl, HR, rfl⟩
          · cases hd : Pl.isDig T[i] with
            | true =>
              have HST : Pl.step 4 T[i] = some 4 := by simp [Pl.step, hd]
              have HN : Hid (Pl.run (T.data.toList.drop (i + 1)) (i + 1) 4 ((i : Int) + 1) p e = Pl.run T.data.toList 0 0 (-1) (-1) (-1)) := by
                rw [run_some HST] at HR
                exact HR
              clear HR
              rw [hd] at HDC
              clear hd HST
              go_wp2_with (go_at_call 14; refine (unhide HDC _).mono ?_; rintro e2 w2 ⟨rfl, rfl⟩)
              go_round
              case rel => exact ⟨i + 1, 4, ((i : Int) + 1), p, e, by omega, by omega, rfl, rfl, rfl, rfl, by go_num, HN⟩
              case measure => simp [intOf]; omega
            | false =>
              cases h101 : ((T[i].toNat : Int) == 101) with
              | true =>
                have HST : Pl.step 4 T[i] = some 5 := by simp [Pl.step, hd, isE_int, h101]
                have HN : Hid (Pl.run (T.data.toList.drop (i + 1)) (i + 1) 5 la p (i : Int) = Pl.run T.data.toList 0 0 (-1) (-1) (-1)) := by
                  rw [run_some HST] at HR
                  exact HR
                clear HR
                rw [hd] at HDC
                clear hd HST
                go_wp2_with (go_at_call 14; refine (unhide HDC _).mono ?_; rintro e2 w2 ⟨rfl, rfl⟩)
                go_round
                case rel => exact ⟨i + 1, 5, la, p, (i : Int), by omega, by omega, rfl, rfl, rfl, rfl, by go_num, HN⟩
                case measure => simp [intOf]; omega
              | false =>
                cases h69 : ((T[i].toNat : Int) == 69) with
                | true =>
                  have HST : Pl.step 4 T[i] = some 5 := by simp [Pl.step, hd, isE_int, h101, h69]
                  have HN : Hid (Pl.run (T.data.toList.drop (i + 1)) (i + 1) 5 la p (i : Int) = Pl.run T.data.toList 0 0 (-1) (-1) (-1)) := by
                    rw [run_some HST] at HR
                    exact HR
                  clear HR
                  rw [hd] at HDC
                  clear hd HST
                  go_wp2_with (go_at_call 14; refine (unhide HDC _).mono ?_; rintro e2 w2 ⟨rfl, rfl⟩)
                  go_round
                  case rel => exact ⟨i + 1, 5, la, p, (i : Int), by omega, by omega, rfl, rfl, rfl, rfl, by go_num, HN⟩
                  case measure => simp [intOf]; omega
                | false =>
                  have HST : Pl.step 4 T[i] = none := by simp [Pl.step, hd, isE_int, h101, h69]
                  rw [run_none HST] at HR
                  rw [hd] at HDC
                  clear hd HST
                  go_wp2_with (go_at_call 14; refine (unhide HDC _).mono ?_; rintro e2 w2 ⟨rfl, rfl⟩)
                  go_meet
                  exact ⟨la, p, e, rfl, rfl, rfl, HR, rfl⟩
          · cases h43 : ((T[i].toNat : Int) == 43) with
            | true =>
              have HST : Pl.step 5 T[i] = some 6 := by simp [Pl.step, isSign_int, h43]
              have HN : Hid (Pl.run (T.data.toList.drop (i + 1)) (i + 1) 6 la p e = Pl.run T.data.toList 0 0 (-1) (-1) (-1)) := by
                rw [run_some HST] at HR
                exact HR
              clear HR
              clear HST
              go_wp2_with (go_at_call 14; refine (unhide HDC _).mono ?_; rintro e2 w2 ⟨rfl, rfl⟩)
              go_round
              case rel => exact ⟨i + 1, 6, la, p, e, by omega, by omega, rfl, rfl, rfl, rfl, by go_num, HN⟩
              case measure => simp [intOf]; omega
            | false =>
              cases h45 : ((T[i].toNat : Int) == 45) with
              | true =>
                have HST : Pl.step 5 T[i] = some 6 := by simp [Pl.step, isSign_int, h43, h45]
                have HN : Hid (Pl.run (T.data.toList.drop (i + 1)) (i + 1) 6 la p e = Pl.run T.data.toList 0 0 (-1) (-1) (-1)) := by
                  rw [run_some HST] at HR
                  exact HR
                clear HR
                clear HST
                go_wp2_with (go_at_call 14; refine (unhide HDC _).mono ?_; rintro e2 w2 ⟨rfl, rfl⟩)
                go_round
                case rel => exact ⟨i + 1, 6, la, p, e, by omega, by omega, rfl, rfl, rfl, rfl, by go_num, HN⟩
                case measure => simp [intOf]; omega
              | false =>
                cases hd : Pl.isDig T[i] with
                | true =>
                  have HST : Pl.step 5 T[i] = some 7 := by simp [Pl.step, isSign_int, h43, h45, hd]
                  have HN : Hid (Pl.run (T.data.toList.drop (i + 1)) (i + 1) 7 ((i : Int) + 1) p e = Pl.run T.data.toList 0 0 (-1) (-1) (-1)) := by
                    rw [run_some HST] at HR
                    exact HR
                  clear HR
                  rw [hd] at HDC
                  clear hd HST
                  go_wp2_with (go_at_call 14; refine (unhide HDC _).mono ?_; rintro e2 w2 ⟨rfl, rfl⟩)
                  go_round
                  case rel => exact ⟨i + 1, 7, ((i : Int) + 1), p, e, by omega, by omega, rfl, rfl, rfl, rfl, by go_num, HN⟩
                  case measure => simp [intOf]; omega
                | false =>
                  have HST : Pl.step 5 T[i] = none := by simp [Pl.step, isSign_int, h43, h45, hd]
                  rw [run_none HST] at HR
                  rw [hd] at HDC
                  clear hd HST
                  go_wp2_with (go_at_call 14; refine (unhide HDC _).mono ?_; rintro e2 w2 ⟨rfl, rfl⟩)
                  go_meet
                  exact ⟨la, p, e, rfl, rfl, rfl, HR, rfl⟩
          · cases hd : Pl.isDig T[i] with
            | true =>
              have HST : Pl.step 6 T[i] = some 7 := by simp [Pl.step, hd]
              have HN : Hid (Pl.run (T.data.toList.drop (i + 1)) (i + 1) 7 ((i : Int) + 1) p e = Pl.run T.data.toList 0 0 (-1) (-1) (-1)) := by
                rw [run_some HST] at HR
                exact HR
              clear HR
              rw [hd] at HDC
              clear hd HST
              go_wp2_with (go_at_call 14; refine (unhide HDC _).mono ?_; rintro e2 w2 ⟨rfl, rfl⟩)
              go_round
              case rel => exact ⟨i + 1, 7, ((i : Int) + 1), p, e, by omega, by omega, rfl, rfl, rfl, rfl, by go_num, HN⟩
              case measure => simp [intOf]; omega
            | false =>
              have HST : Pl.step 6 T[i] = none := by simp [Pl.step, hd]
              rw [run_none HST] at HR
              rw [hd] at HDC
              clear hd HST
              go_wp2_with (go_at_call 14; refine (unhide HDC _).mono ?_; rintro e2 w2 ⟨rfl, rfl⟩)
              go_meet
              exact ⟨la, p, e, rfl, rfl, rfl, HR, rfl⟩
          · cases hd : Pl.isDig T[i] with
            | true =>
              have HST : Pl.step 7 T[i] = some 7 := by simp [Pl.step, hd]
              have HN : Hid (Pl.run (T.data.toList.drop (i + 1)) (i + 1) 7 ((i : Int) + 1) p e = Pl.run T.data.toList 0 0 (-1) (-1) (-1)) := by
                rw [run_some HST] at HR
                exact HR
              clear HR
              rw [hd] at HDC
              clear hd HST
              go_wp2_with (go_at_call 14; refine (unhide HDC _).mono ?_; rintro e2 w2 ⟨rfl, rfl⟩)
              go_round
              case rel => exact ⟨i + 1, 7, ((i : Int) + 1), p, e, by omega, by omega, rfl, rfl, rfl, rfl, by go_num, HN⟩
              case measure => simp [intOf]; omega
            | false =>
              have HST : Pl.step 7 T[i] = none := by simp [Pl.step, hd]
              rw [run_none HST] at HR
              rw [hd] at HDC
              clear hd HST
              go_wp2_with (go_at_call 14; refine (unhide HDC _).mono ?_; rintro e2 w2 ⟨rfl, rfl⟩)
              go_meet
              exact ⟨la, p, e, rfl, rfl, rfl, HR, rfl⟩
        · have hrun : T.data.toList.drop i = [] := List.drop_of_length_le (by simp; omega)
          rw [hrun] at HR
          clear hrun
          go_wp2_with fail
          go_meet
          exact ⟨la, p, e, rfl, rfl, rfl, HR, rfl⟩
    case rest =>
      obtain ⟨la, p, e, rfl, rfl, rfl, HF, rfl⟩ := hcut
      have HE0 := hide (rfl : Pl.sg T.data.toList = Pl.sg T.data.toList)
      have he0 : Pl.sg T.data.toList ≤ T.size := sg_le T
      have hi1 := cnt_le T (Pl.sg T.data.toList) he0
      generalize hG0 : Pl.sg T.data.toList = e0 at *
      generalize hG1 : Pl.nd (T.data.toList.drop e0) = i1 at *
      obtain ⟨e1, hE1⟩ : ∃ e1, e1 = e0 + i1 := ⟨_, rfl⟩
      have HP : Hid (partsOf T = partsAt T e0 i1 e1 (e2Of T.data.toList i1 e1)) := by
        refine hide ?_
        unfold partsOf
        rw [hG0, hG1, ← hE1]
      have hout := model_out T.data.toList e0 i1 e1 hG0 hG1 hE1
      rw [← unhide HF] at hout
      have HSG := hide (sg_at T.data.toList)
      rw [hG0] at HSG
      clear HE0 hG0 hG1 HF HR0
      rw [← hE1] at hi1
      rcases hout with ⟨ha, hb, hla⟩ | ⟨hnf, hall⟩
      · simp only at hla
        have HP2 : Hid (partsOf T = (emptyB, emptyB, emptyB, emptyB, emptyB, emptyB, false)) := by
          refine hide ?_
          rw [unhide HP]; unfold partsAt; rw [if_pos ⟨ha, hb⟩]
        clear HP ha hb hE1 HSG
        subst hla
        unfold resObj7
        go_wp2_with fail
        exact bodyPost_ret (v := .agg #[.string { data := #[] }, .string { data := #[] }, .string { data := #[] }, .string { data := #[] }, .string { data := #[] }, .string { data := #[] }, .bool false]) (by simp [results, Tryd.results7, go_sem]) rfl ⟨T, _, _, _, _, _, _, _, HT, hide (unhide HP2).symm, rfl, (Below.refl w.heap.size w).alloc (Nat.le_refl _) _⟩
      · have hpos := found_pos T.data.toList e0 i1 e1 hE1 hnf
        have he2 := e2_le T i1 e1 hi1
        have hdf := dot_facts T i1 e1 hnf
        have HP2 : Hid (partsOf T = (T.extract 0 e0, T.extract e0 e1, FOf T e1, XOf T (e2Of T.data.toList i1 e1), T.extract 0 (endOf T.data.toList (e2Of T.data.toList i1 e1)), T.extract (endOf T.data.toList (e2Of T.data.toList i1 e1)) T.size, true)) := by
          refine hide ?_
          rw [unhide HP]; unfold partsAt; rw [if_neg hnf]
        have he01 : e0 ≤ e1 := by omega
        clear hE1 hnf HP
        generalize e2Of T.data.toList i1 e1 = e2 at *
        have hef := e_facts T e2
        have hel := end_le T e2 he2
        generalize endOf T.data.toList e2 = E at *
        simp only [Prod.mk.injEq] at hall
        obtain ⟨rfl, rfl, rfl⟩ := hall
        have HW1 : Hid (Two w ((w.alloc resObj7).alloc (Obj.cells #[.string { data := #[] }, .string { data := #[] }, .string { data := #[] }, .string { data := #[] }, .string { data := #[] }, .string { data := #[] }, .bool false] 24))) := hide (two_blocks w)
        have h0T : 0 < T.size := by omega
        rcases hdf with ⟨hd, rfl, hF⟩ | ⟨hd, hd2, hF⟩
        all_goals
          rw [hF] at HP2
          rw [hd]
          clear hF hd
          rcases hef with ⟨he, rfl, hX⟩ | ⟨he, rfl, hX⟩ | ⟨he, hx2, hX⟩
          all_goals
            rw [hX] at HP2
            rw [he]
            clear hX he
            simp only [if_true, if_false, Bool.false_eq_true]
        · go_upto_region 68 with fail
          go_cut [148] from 132 to 147 (fun v wx => v = .bool (sgnAt T.data.toList 0) ∧ wx = w.alloc resObj7)
          case first =>
            rcases sgn_cases T 0 with ⟨h, H⟩ | ⟨h, h1, H⟩ | ⟨h, h1, h2, H⟩ | ⟨h, h1, h2, H⟩
            · omega
            all_goals
              go_wp2_with fail
              go_meet
              exact ⟨by rw [unhide H], rfl⟩
          case rest =>
            obtain ⟨rfl, rfl⟩ := hcut
            generalize sgnAt T.data.toList 0 = sB at *
            go_upto_if 148 with fail
            go_cut [12] from 132 to 149 (fun v wx => v = .int .i64 (e0 : Nat) ∧ wx = w.alloc resObj7)
            case first =>
              cases sB
              all_goals
                go_wp2_with fail
                go_meet
                exact ⟨by rw [unhide HSG]; rfl, rfl⟩
            case rest =>
              obtain ⟨rfl, rfl⟩ := hcut
              clear HSG
              go_upto_region 76 with fail
              generalize ((w.alloc resObj7).alloc (Obj.cells #[Value.string { data := #[] }, Value.string { data := #[] }, Value.string { data := #[] }, Value.string { data := #[] }, Value.string { data := #[] }, Value.string { data := #[] }, Value.bool false] 24)) = W1 at HW1 ⊢
              obtain ⟨hbel, hc, hd, d6, hfc, hfd⟩ := unhide HW1
              obtain ⟨x0, c0⟩ := hc 0 (by omega)
              obtain ⟨x1, c1⟩ := hc 1 (by omega)
              obtain ⟨x2, c2⟩ := hc 2 (by omega)
              obtain ⟨x3, c3⟩ := hc 3 (by omega)
              obtain ⟨x4, c4⟩ := hc 4 (by omega)
              obtain ⟨x5, c5⟩ := hc 5 (by omega)
              obtain ⟨x6, c6⟩ := hc 6 (by omega)
              have d0 := hd 0 (by omega)
              have d1 := hd 1 (by omega)
              have d2 := hd 2 (by omega)
              have d3 := hd 3 (by omega)
              have d4 := hd 4 (by omega)
              have d5 := hd 5 (by omega)
              have fc0 := hfc 0
              have fc1 := hfc 1
              have fc2 := hfc 2
              have fc3 := hfc 3
              have fc4 := hfc 4
              have fc5 := hfc 5
              have fc6 := hfc 6
              have fd0 := hfd 0
              have fd1 := hfd 1
              have fd2 := hfd 2
              have fd3 := hfd 3
              have fd4 := hfd 4
              have fd5 := hfd 5
              have fd6 := hfd 6
              have HBEL := hide hbel
              clear hbel hc hd hfc hfd HW1
              go_wp2_with fail
              have hq0 : Q7 W1 w.heap.size x0 x1 x2 x3 x4 x5 x6 := ⟨c0, c1, c2, c3, c4, c5, c6⟩
              clear c0 c1 c2 c3 c4 c5 c6 d0 d1 d2 d3 d4 d5 d6 fc0 fc1 fc2 fc3 fc4 fc5 fc6 fd0 fd1 fd2 fd3 fd4 fd5 fd6
              have hbelow : ∀ (W : World) (a : Addr) (u : Value), w.heap.size ≤ a.block → Below w.heap.size w W → Below w.heap.size w (W.setCell a u) := fun W a u h hb => hb.setCell (p := a) h u
              refine fin7 (b := w.heap.size) (v0 := .string (T.extract 0 e0)) (v1 := .string (T.extract e0 E)) (v2 := .string { data := #[] }) (v3 := .string { data := #[] }) (v4 := .string (T.extract 0 E)) (v5 := .string (T.extract E T.size)) (v6 := .bool true) ?_ (by simp) rfl ⟨T, _, _, _, _, _, _, _, HT, hide (unhide HP2).symm, rfl, ?_⟩
              · exact ((((((((((((hq0.other _ _).other _ _).other _ _).other _ _).other _ _).set0 _).set1 _).set2 _).set3 _).set4 _).set5 _).set6 _)
              · exact (hbelow _ _ _ (Nat.le_refl _) (hbelow _ _ _ (Nat.le_refl _) (hbelow _ _ _ (Nat.le_refl _) (hbelow _ _ _ (Nat.le_refl _) (hbelow _ _ _ (Nat.le_refl _) (hbelow _ _ _ (Nat.le_refl _) (hbelow _ _ _ (Nat.le_refl _) (hbelow _ _ _ (Nat.le_succ _) (hbelow _ _ _ (Nat.le_succ _) (hbelow _ _ _ (Nat.le_succ _) (hbelow _ _ _ (Nat.le_succ _) (hbelow _ _ _ (Nat.le_succ _) (unhide HBEL)))))))))))))
        · go_upto_region 68 with fail
          go_cut [148] from 132 to 147 (fun v wx => v = .bool (sgnAt T.data.toList 0) ∧ wx = w.alloc resObj7)
          case first =>
            rcases sgn_cases T 0 with ⟨h, H⟩ | ⟨h, h1, H⟩ | ⟨h, h1, h2, H⟩ | ⟨h, h1, h2, H⟩
            · omega
            all_goals
              go_wp2_with fail
              go_meet
              exact ⟨by rw [unhide H], rfl⟩
          case rest =>
            obtain ⟨rfl, rfl⟩ := hcut
            generalize sgnAt T.data.toList 0 = sB at *
            go_upto_if 148 with fail
            go_cut [12] from 132 to 149 (fun v wx => v = .int .i64 (e0 : Nat) ∧ wx = w.alloc resObj7)
            case first =>
              cases sB
              all_goals
                go_wp2_with fail
                go_meet
                exact ⟨by rw [unhide HSG]; rfl, rfl⟩
            case rest =>
              obtain ⟨rfl, rfl⟩ := hcut
              clear HSG
              go_upto_region 76 with fail
              generalize ((w.alloc resObj7).alloc (Obj.cells #[Value.string { data := #[] }, Value.string { data := #[] }, Value.string { data := #[] }, Value.string { data := #[] }, Value.string { data := #[] }, Value.string { data := #[] }, Value.bool false] 24)) = W1 at HW1 ⊢
              obtain ⟨hbel, hc, hd, d6, hfc, hfd⟩ := unhide HW1
              obtain ⟨x0, c0⟩ := hc 0 (by omega)
              obtain ⟨x1, c1⟩ := hc 1 (by omega)
              obtain ⟨x2, c2⟩ := hc 2 (by omega)
              obtain ⟨x3, c3⟩ := hc 3 (by omega)
              obtain ⟨x4, c4⟩ := hc 4 (by omega)
              obtain ⟨x5, c5⟩ := hc 5 (by omega)
              obtain ⟨x6, c6⟩ := hc 6 (by omega)
              have d0 := hd 0 (by omega)
              have d1 := hd 1 (by omega)
              have d2 := hd 2 (by omega)
              have d3 := hd 3 (by omega)
              have d4 := hd 4 (by omega)
              have d5 := hd 5 (by omega)
              have fc0 := hfc 0
              have fc1 := hfc 1
              have fc2 := hfc 2
              have fc3 := hfc 3
              have fc4 := hfc 4
              have fc5 := hfc 5
              have fc6 := hfc 6
              have fd0 := hfd 0
              have fd1 := hfd 1
              have fd2 := hfd 2
              have fd3 := hfd 3
              have fd4 := hfd 4
              have fd5 := hfd 5
              have fd6 := hfd 6
              have HBEL := hide hbel
              clear hbel hc hd hfc hfd HW1
              go_wp2_with fail
              have hq0 : Q7 W1 w.heap.size x0 x1 x2 x3 x4 x5 x6 := ⟨c0, c1, c2, c3, c4, c5, c6⟩
              clear c0 c1 c2 c3 c4 c5 c6 d0 d1 d2 d3 d4 d5 d6 fc0 fc1 fc2 fc3 fc4 fc5 fc6 fd0 fd1 fd2 fd3 fd4 fd5 fd6
              have hbelow : ∀ (W : World) (a : Addr) (u : Value), w.heap.size ≤ a.block → Below w.heap.size w W → Below w.heap.size w (W.setCell a u) := fun W a u h hb => hb.setCell (p := a) h u
              refine fin7 (b := w.heap.size) (v0 := .string (T.extract 0 e0)) (v1 := .string (T.extract e0 E)) (v2 := .string { data := #[] }) (v3 := .string { data := #[] }) (v4 := .string (T.extract 0 E)) (v5 := .string (T.extract E T.size)) (v6 := .bool true) ?_ (by simp) rfl ⟨T, _, _, _, _, _, _, _, HT, hide (unhide HP2).symm, rfl, ?_⟩
              · exact ((((((((((((hq0.other _ _).other _ _).other _ _).other _ _).other _ _).set0 _).set1 _).set2 _).set3 _).set4 _).set5 _).set6 _)
              · exact (hbelow _ _ _ (Nat.le_refl _) (hbelow _ _ _ (Nat.le_refl _) (hbelow _ _ _ (Nat.le_refl _) (hbelow _ _ _ (Nat.le_refl _) (hbelow _ _ _ (Nat.le_refl _) (hbelow _ _ _ (Nat.le_refl _) (hbelow _ _ _ (Nat.le_refl _) (hbelow _ _ _ (Nat.le_succ _) (hbelow _ _ _ (Nat.le_succ _) (hbelow _ _ _ (Nat.le_succ _) (hbelow _ _ _ (Nat.le_succ _) (hbelow _ _ _ (Nat.le_succ _) (unhide HBEL)))))))))))))
        · go_upto_region 68 with fail
          go_cut [148] from 132 to 147 (fun v wx => v = .bool (sgnAt T.data.toList 0) ∧ wx = w.alloc resObj7)
          case first =>
            rcases sgn_cases T 0 with ⟨h, H⟩ | ⟨h, h1, H⟩ | ⟨h, h1, h2, H⟩ | ⟨h, h1, h2, H⟩
            · omega
            all_goals
              go_wp2_with fail
              go_meet
              exact ⟨by rw [unhide H], rfl⟩
          case rest =>
            obtain ⟨rfl, rfl⟩ := hcut
            generalize sgnAt T.data.toList 0 = sB at *
            go_upto_if 148 with fail
            go_cut [12] from 132 to 149 (fun v wx => v = .int .i64 (e0 : Nat) ∧ wx = w.alloc resObj7)
            case first =>
              cases sB
              all_goals
                go_wp2_with fail
                go_meet
                exact ⟨by rw [unhide HSG]; rfl, rfl⟩
            case rest =>
              obtain ⟨rfl, rfl⟩ := hcut
              clear HSG
              go_upto_region 76 with fail
              generalize ((w.alloc resObj7).alloc (Obj.cells #[Value.string { data := #[] }, Value.string { data := #[] }, Value.string { data := #[] }, Value.string { data := #[] }, Value.string { data := #[] }, Value.string { data := #[] }, Value.bool false] 24)) = W1 at HW1 ⊢
              obtain ⟨hbel, hc, hd, d6, hfc, hfd⟩ := unhide HW1
              obtain ⟨x0, c0⟩ := hc 0 (by omega)
              obtain ⟨x1, c1⟩ := hc 1 (by omega)
              obtain ⟨x2, c2⟩ := hc 2 (by omega)
              obtain ⟨x3, c3⟩ := hc 3 (by omega)
              obtain ⟨x4, c4⟩ := hc 4 (by omega)
              obtain ⟨x5, c5⟩ := hc 5 (by omega)
              obtain ⟨x6, c6⟩ := hc 6 (by omega)
              have d0 := hd 0 (by omega)
              have d1 := hd 1 (by omega)
              have d2 := hd 2 (by omega)
              have d3 := hd 3 (by omega)
              have d4 := hd 4 (by omega)
              have d5 := hd 5 (by omega)
              have fc0 := hfc 0
              have fc1 := hfc 1
              have fc2 := hfc 2
              have fc3 := hfc 3
              have fc4 := hfc 4
              have fc5 := hfc 5
              have fc6 := hfc 6
              have fd0 := hfd 0
              have fd1 := hfd 1
              have fd2 := hfd 2
              have fd3 := hfd 3
              have fd4 := hfd 4
              have fd5 := hfd 5
              have fd6 := hfd 6
              have HBEL := hide hbel
              clear hbel hc hd hfc hfd HW1
              go_wp2_with fail
              have hq0 : Q7 W1 w.heap.size x0 x1 x2 x3 x4 x5 x6 := ⟨c0, c1, c2, c3, c4, c5, c6⟩
              clear c0 c1 c2 c3 c4 c5 c6 d0 d1 d2 d3 d4 d5 d6 fc0 fc1 fc2 fc3 fc4 fc5 fc6 fd0 fd1 fd2 fd3 fd4 fd5 fd6
              have hbelow : ∀ (W : World) (a : Addr) (u : Value), w.heap.size ≤ a.block → Below w.heap.size w W → Below w.heap.size w (W.setCell a u) := fun W a u h hb => hb.setCell (p := a) h u
              refine fin7 (b := w.heap.size) (v0 := .string (T.extract 0 e0)) (v1 := .string (T.extract e0 e2)) (v2 := .string { data := #[] }) (v3 := .string (T.extract (e2 + 1) E)) (v4 := .string (T.extract 0 E)) (v5 := .string (T.extract E T.size)) (v6 := .bool true) ?_ (by simp) rfl ⟨T, _, _, _, _, _, _, _, HT, hide (unhide HP2).symm, rfl, ?_⟩
              · exact (((((((((((((hq0.other _ _).other _ _).other _ _).other _ _).other _ _).other _ _).set0 _).set1 _).set2 _).set3 _).set4 _).set5 _).set6 _)
              · exact (hbelow _ _ _ (Nat.le_refl _) (hbelow _ _ _ (Nat.le_refl _) (hbelow _ _ _ (Nat.le_refl _) (hbelow _ _ _ (Nat.le_refl _) (hbelow _ _ _ (Nat.le_refl _) (hbelow _ _ _ (Nat.le_refl _) (hbelow _ _ _ (Nat.le_refl _) (hbelow _ _ _ (Nat.le_succ _) (hbelow _ _ _ (Nat.le_succ _) (hbelow _ _ _ (Nat.le_succ _) (hbelow _ _ _ (Nat.le_succ _) (hbelow _ _ _ (Nat.le_succ _) (hbelow _ _ _ (Nat.le_succ _) (unhide HBEL))))))))))))))
        · go_upto_region 68 with fail
          go_cut [148] from 132 to 147 (fun v wx => v = .bool (sgnAt T.data.toList 0) ∧ wx = w.alloc resObj7)
          case first =>
            rcases sgn_cases T 0 with ⟨h, H⟩ | ⟨h, h1, H⟩ | ⟨h, h1, h2, H⟩ | ⟨h, h1, h2, H⟩
            · omega
            all_goals
              go_wp2_with fail
              go_meet
              exact ⟨by rw [unhide H], rfl⟩
          case rest =>
            obtain ⟨rfl, rfl⟩ := hcut
            generalize sgnAt T.data.toList 0 = sB at *
            go_upto_if 148 with fail
            go_cut [12] from 132 to 149 (fun v wx => v = .int .i64 (e0 : Nat) ∧ wx = w.alloc resObj7)
            case first =>
              cases sB
              all_goals
                go_wp2_with fail
                go_meet
                exact ⟨by rw [unhide HSG]; rfl, rfl⟩
            case rest =>
              obtain ⟨rfl, rfl⟩ := hcut
              clear HSG
              go_upto_region 76 with fail
              generalize ((w.alloc resObj7).alloc (Obj.cells #[Value.string { data := #[] }, Value.string { data := #[] }, Value.string { data := #[] }, Value.string { data := #[] }, Value.string { data := #[] }, Value.string { data := #[] }, Value.bool false] 24)) = W1 at HW1 ⊢
              obtain ⟨hbel, hc, hd, d6, hfc, hfd⟩ := unhide HW1
              obtain ⟨x0, c0⟩ := hc 0 (by omega)
              obtain ⟨x1, c1⟩ := hc 1 (by omega)
              obtain ⟨x2, c2⟩ := hc 2 (by omega)
              obtain ⟨x3, c3⟩ := hc 3 (by omega)
              obtain ⟨x4, c4⟩ := hc 4 (by omega)
              obtain ⟨x5, c5⟩ := hc 5 (by omega)
              obtain ⟨x6, c6⟩ := hc 6 (by omega)
              have d0 := hd 0 (by omega)
              have d1 := hd 1 (by omega)
              have d2 := hd 2 (by omega)
              have d3 := hd 3 (by omega)
              have d4 := hd 4 (by omega)
              have d5 := hd 5 (by omega)
              have fc0 := hfc 0
              have fc1 := hfc 1
              have fc2 := hfc 2
              have fc3 := hfc 3
              have fc4 := hfc 4
              have fc5 := hfc 5
              have fc6 := hfc 6
              have fd0 := hfd 0
              have fd1 := hfd 1
              have fd2 := hfd 2
              have fd3 := hfd 3
              have fd4 := hfd 4
              have fd5 := hfd 5
              have fd6 := hfd 6
              have HBEL := hide hbel
              clear hbel hc hd hfc hfd HW1
              go_wp2_with fail
              have hq0 : Q7 W1 w.heap.size x0 x1 x2 x3 x4 x5 x6 := ⟨c0, c1, c2, c3, c4, c5, c6⟩
              clear c0 c1 c2 c3 c4 c5 c6 d0 d1 d2 d3 d4 d5 d6 fc0 fc1 fc2 fc3 fc4 fc5 fc6 fd0 fd1 fd2 fd3 fd4 fd5 fd6
              have hbelow : ∀ (W : World) (a : Addr) (u : Value), w.heap.size ≤ a.block → Below w.heap.size w W → Below w.heap.size w (W.setCell a u) := fun W a u h hb => hb.setCell (p := a) h u
              refine fin7 (b := w.heap.size) (v0 := .string (T.extract 0 e0)) (v1 := .string (T.extract e0 e1)) (v2 := .string (T.extract (e1 + 1) E)) (v3 := .string { data := #[] }) (v4 := .string (T.extract 0 E)) (v5 := .string (T.extract E T.size)) (v6 := .bool true) ?_ (by simp) rfl ⟨T, _, _, _, _, _, _, _, HT, hide (unhide HP2).symm, rfl, ?_⟩
              · exact (((((((((((((hq0.other _ _).other _ _).other _ _).other _ _).other _ _).other _ _).set0 _).set1 _).set2 _).set3 _).set4 _).set5 _).set6 _)
              · exact (hbelow _ _ _ (Nat.le_refl _) (hbelow _ _ _ (Nat.le_refl _) (hbelow _ _ _ (Nat.le_refl _) (hbelow _ _ _ (Nat.le_refl _) (hbelow _ _ _ (Nat.le_refl _) (hbelow _ _ _ (Nat.le_refl _) (hbelow _ _ _ (Nat.le_refl _) (hbelow _ _ _ (Nat.le_succ _) (hbelow _ _ _ (Nat.le_succ _) (hbelow _ _ _ (Nat.le_succ _) (hbelow _ _ _ (Nat.le_succ _) (hbelow _ _ _ (Nat.le_succ _) (hbelow _ _ _ (Nat.le_succ _) (unhide HBEL))))))))))))))
        · go_upto_region 68 with fail
          go_cut [148] from 132 to 147 (fun v wx => v = .bool (sgnAt T.data.toList 0) ∧ wx = w.alloc resObj7)
          case first =>
            rcases sgn_cases T 0 with ⟨h, H⟩ | ⟨h, h1, H⟩ | ⟨h, h1, h2, H⟩ | ⟨h, h1, h2, H⟩
            · omega
            all_goals
              go_wp2_with fail
              go_meet
              exact ⟨by rw [unhide H], rfl⟩
          case rest =>
            obtain ⟨rfl, rfl⟩ := hcut
            generalize sgnAt T.data.toList 0 = sB at *
            go_upto_if 148 with fail
            go_cut [12] from 132 to 149 (fun v wx => v = .int .i64 (e0 : Nat) ∧ wx = w.alloc resObj7)
            case first =>
              cases sB
              all_goals
                go_wp2_with fail
                go_meet
                exact ⟨by rw [unhide HSG]; rfl, rfl⟩
            case rest =>
              obtain ⟨rfl, rfl⟩ := hcut
              clear HSG
              go_upto_region 76 with fail
              generalize ((w.alloc resObj7).alloc (Obj.cells #[Value.string { data := #[] }, Value.string { data := #[] }, Value.string { data := #[] }, Value.string { data := #[] }, Value.string { data := #[] }, Value.string { data := #[] }, Value.bool false] 24)) = W1 at HW1 ⊢
              obtain ⟨hbel, hc, hd, d6, hfc, hfd⟩ := unhide HW1
              obtain ⟨x0, c0⟩ := hc 0 (by omega)
              obtain ⟨x1, c1⟩ := hc 1 (by omega)
              obtain ⟨x2, c2⟩ := hc 2 (by omega)
              obtain ⟨x3, c3⟩ := hc 3 (by omega)
              obtain ⟨x4, c4⟩ := hc 4 (by omega)
              obtain ⟨x5, c5⟩ := hc 5 (by omega)
              obtain ⟨x6, c6⟩ := hc 6 (by omega)
              have d0 := hd 0 (by omega)
              have d1 := hd 1 (by omega)
              have d2 := hd 2 (by omega)
              have d3 := hd 3 (by omega)
              have d4 := hd 4 (by omega)
              have d5 := hd 5 (by omega)
              have fc0 := hfc 0
              have fc1 := hfc 1
              have fc2 := hfc 2
              have fc3 := hfc 3
              have fc4 := hfc 4
              have fc5 := hfc 5
              have fc6 := hfc 6
              have fd0 := hfd 0
              have fd1 := hfd 1
              have fd2 := hfd 2
              have fd3 := hfd 3
              have fd4 := hfd 4
              have fd5 := hfd 5
              have fd6 := hfd 6
              have HBEL := hide hbel
              clear hbel hc hd hfc hfd HW1
              go_wp2_with fail
              have hq0 : Q7 W1 w.heap.size x0 x1 x2 x3 x4 x5 x6 := ⟨c0, c1, c2, c3, c4, c5, c6⟩
              clear c0 c1 c2 c3 c4 c5 c6 d0 d1 d2 d3 d4 d5 d6 fc0 fc1 fc2 fc3 fc4 fc5 fc6 fd0 fd1 fd2 fd3 fd4 fd5 fd6
              have hbelow : ∀ (W : World) (a : Addr) (u : Value), w.heap.size ≤ a.block → Below w.heap.size w W → Below w.heap.size w (W.setCell a u) := fun W a u h hb => hb.setCell (p := a) h u
              refine fin7 (b := w.heap.size) (v0 := .string (T.extract 0 e0)) (v1 := .string (T.extract e0 e1)) (v2 := .string (T.extract (e1 + 1) E)) (v3 := .string { data := #[] }) (v4 := .string (T.extract 0 E)) (v5 := .string (T.extract E T.size)) (v6 := .bool true) ?_ (by simp) rfl ⟨T, _, _, _, _, _, _, _, HT, hide (unhide HP2).symm, rfl, ?_⟩
              · exact (((((((((((((hq0.other _ _).other _ _).other _ _).other _ _).other _ _).other _ _).set0 _).set1 _).set2 _).set3 _).set4 _).set5 _).set6 _)
              · exact (hbelow _ _ _ (Nat.le_refl _) (hbelow _ _ _ (Nat.le_refl _) (hbelow _ _ _ (Nat.le_refl _) (hbelow _ _ _ (Nat.le_refl _) (hbelow _ _ _ (Nat.le_refl _) (hbelow _ _ _ (Nat.le_refl _) (hbelow _ _ _ (Nat.le_refl _) (hbelow _ _ _ (Nat.le_succ _) (hbelow _ _ _ (Nat.le_succ _) (hbelow _ _ _ (Nat.le_succ _) (hbelow _ _ _ (Nat.le_succ _) (hbelow _ _ _ (Nat.le_succ _) (hbelow _ _ _ (Nat.le_succ _) (unhide HBEL))))))))))))))
        · go_upto_region 68 with fail
          go_cut [148] from 132 to 147 (fun v wx => v = .bool (sgnAt T.data.toList 0) ∧ wx = w.alloc resObj7)
          case first =>
            rcases sgn_cases T 0 with ⟨h, H⟩ | ⟨h, h1, H⟩ | ⟨h, h1, h2, H⟩ | ⟨h, h1, h2, H⟩
            · omega
            all_goals
              go_wp2_with fail
              go_meet
              exact ⟨by rw [unhide H], rfl⟩
          case rest =>
            obtain ⟨rfl, rfl⟩ := hcut
            generalize sgnAt T.data.toList 0 = sB at *
            go_upto_if 148 with fail
            go_cut [12] from 132 to 149 (fun v wx => v = .int .i64 (e0 : Nat) ∧ wx = w.alloc resObj7)
            case first =>
              cases sB
              all_goals
                go_wp2_with fail
                go_meet
                exact ⟨by rw [unhide HSG]; rfl, rfl⟩
            case rest =>
              obtain ⟨rfl, rfl⟩ := hcut
              clear HSG
              go_upto_region 76 with fail
              generalize ((w.alloc resObj7).alloc (Obj.cells #[Value.string { data := #[] }, Value.string { data := #[] }, Value.string { data := #[] }, Value.string { data := #[] }, Value.string { data := #[] }, Value.string { data := #[] }, Value.bool false] 24)) = W1 at HW1 ⊢
              obtain ⟨hbel, hc, hd, d6, hfc, hfd⟩ := unhide HW1
              obtain ⟨x0, c0⟩ := hc 0 (by omega)
              obtain ⟨x1, c1⟩ := hc 1 (by omega)
              obtain ⟨x2, c2⟩ := hc 2 (by omega)
              obtain ⟨x3, c3⟩ := hc 3 (by omega)
              obtain ⟨x4, c4⟩ := hc 4 (by omega)
              obtain ⟨x5, c5⟩ := hc 5 (by omega)
              obtain ⟨x6, c6⟩ := hc 6 (by omega)
              have d0 := hd 0 (by omega)
              have d1 := hd 1 (by omega)
              have d2 := hd 2 (by omega)
              have d3 := hd 3 (by omega)
              have d4 := hd 4 (by omega)
              have d5 := hd 5 (by omega)
              have fc0 := hfc 0
              have fc1 := hfc 1
              have fc2 := hfc 2
              have fc3 := hfc 3
              have fc4 := hfc 4
              have fc5 := hfc 5
              have fc6 := hfc 6
              have fd0 := hfd 0
              have fd1 := hfd 1
              have fd2 := hfd 2
              have fd3 := hfd 3
              have fd4 := hfd 4
              have fd5 := hfd 5
              have fd6 := hfd 6
              have HBEL := hide hbel
              clear hbel hc hd hfc hfd HW1
              go_wp2_with fail
              have hq0 : Q7 W1 w.heap.size x0 x1 x2 x3 x4 x5 x6 := ⟨c0, c1, c2, c3, c4, c5, c6⟩
              clear c0 c1 c2 c3 c4 c5 c6 d0 d1 d2 d3 d4 d5 d6 fc0 fc1 fc2 fc3 fc4 fc5 fc6 fd0 fd1 fd2 fd3 fd4 fd5 fd6
              have hbelow : ∀ (W : World) (a : Addr) (u : Value), w.heap.size ≤ a.block → Below w.heap.size w W → Below w.heap.size w (W.setCell a u) := fun W a u h hb => hb.setCell (p := a) h u
              refine fin7 (b := w.heap.size) (v0 := .string (T.extract 0 e0)) (v1 := .string (T.extract e0 e1)) (v2 := .string (T.extract (e1 + 1) e2)) (v3 := .string (T.extract (e2 + 1) E)) (v4 := .string (T.extract 0 E)) (v5 := .string (T.extract E T.size)) (v6 := .bool true) ?_ (by simp) rfl ⟨T, _, _, _, _, _, _, _, HT, hide (unhide HP2).symm, rfl, ?_⟩
              · exact ((((((((((((((hq0.other _ _).other _ _).other _ _).other _ _).other _ _).other _ _).other _ _).set0 _).set1 _).set2 _).set3 _).set4 _).set5 _).set6 _)
              · exact (hbelow _ _ _ (Nat.le_refl _) (hbelow _ _ _ (Nat.le_refl _) (hbelow _ _ _ (Nat.le_refl _) (hbelow _ _ _ (Nat.le_refl _) (hbelow _ _ _ (Nat.le_refl _) (hbelow _ _ _ (Nat.le_refl _) (hbelow _ _ _ (Nat.le_refl _) (hbelow _ _ _ (Nat.le_succ _) (hbelow _ _ _ (Nat.le_succ _) (hbelow _ _ _ (Nat.le_succ _) (hbelow _ _ _ (Nat.le_succ _) (hbelow _ _ _ (Nat.le_succ _) (hbelow _ _ _ (Nat.le_succ _) (hbelow _ _ _ (Nat.le_succ _) (unhide HBEL)))))))))))))))
end Go.Proofs.Qxb6606071aDoor
