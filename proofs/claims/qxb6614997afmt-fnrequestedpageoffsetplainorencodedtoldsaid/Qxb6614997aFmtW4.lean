import Derived.Test.Qxb6614997aFmtW2
import Derived.Test.Qxb6614997aFmtShelf
import Derived.Deep.QuietTactic
import Derived.BigQuiet
import Derived.Deep.RegionHeld
import Derived.RangeFuncFrom
import Derived.Laws.BitsAllLaws
namespace Go.Proofs.Qxb6614997aFmt
open Go.RowKit

theorem drop_at (s : ByteArray) (k : Nat) (h : k < s.size) : s.data.toList.drop k = s[k] :: s.data.toList.drop (k + 1) := by
  rw [List.drop_eq_getElem_cons (by simpa using h)]; rfl

/-- what is left, read from k on. -/
def okAt (s : ByteArray) (k : Nat) : Bool := Pl.okEsc (s.data.toList.drop k)
def cntAt (s : ByteArray) (k : Nat) : Nat := Pl.cnt (s.data.toList.drop k)
def plusAt (s : ByteArray) (k : Nat) : Bool := Pl.plus (s.data.toList.drop k)
def decAt (s : ByteArray) (k : Nat) : List UInt8 := Pl.dec (s.data.toList.drop k)

theorem at_end (s : ByteArray) (k : Nat) (h : s.size ≤ k) : okAt s k = true ∧ cntAt s k = 0 ∧ plusAt s k = false ∧ decAt s k = [] := by
  have : s.data.toList.drop k = [] := List.drop_eq_nil_of_le (by simpa using h)
  simp [okAt, cntAt, plusAt, decAt, this, Pl.okEsc, Pl.cnt, Pl.plus, Pl.dec]

theorem at_short (s : ByteArray) (k : Nat) (h : k < s.size) (h2 : s.size ≤ k + 2) (hc : s[k] = 37) : okAt s k = false := by
  unfold okAt
  rw [drop_at s k h, hc]
  by_cases h1 : k + 1 < s.size
  · rw [drop_at s (k + 1) h1, List.drop_eq_nil_of_le (by simpa using h2)]; rfl
  · rw [List.drop_eq_nil_of_le (by simp; omega)]; rfl

theorem at_esc (s : ByteArray) (k : Nat) (h : k + 2 < s.size) (hc : s[k] = 37) :
    okAt s k = (Pl.hexB s[k + 1] && Pl.hexB s[k + 2] && okAt s (k + 3)) ∧ cntAt s k = cntAt s (k + 3) + 1 ∧ plusAt s k = plusAt s (k + 3) ∧ decAt s k = Pl.two s[k + 1] s[k + 2] :: decAt s (k + 3) := by
  unfold okAt cntAt plusAt decAt
  rw [drop_at s k (by omega), drop_at s (k + 1) (by omega), drop_at s (k + 1 + 1) (by omega), hc]
  simp [Pl.okEsc, Pl.cnt, Pl.plus, Pl.dec]

theorem cons_plain (c : UInt8) (hc : c ≠ 37) : ∀ (r : List UInt8), Pl.okEsc (c :: r) = Pl.okEsc r ∧ Pl.cnt (c :: r) = Pl.cnt r ∧ Pl.plus (c :: r) = (if c = 43 then true else Pl.plus r) ∧ Pl.dec (c :: r) = (if c = 43 then 32 :: Pl.dec r else c :: Pl.dec r)
  | [] => by simp [Pl.okEsc, Pl.cnt, Pl.plus, Pl.dec, hc]
  | [a] => by
    refine ⟨?_, ?_, ?_, ?_⟩
    · rw [Pl.okEsc]; simp [hc]; simp
    · rw [Pl.cnt]; simp [hc]; simp
    · rw [Pl.plus]; simp [hc]; simp
    · rw [Pl.dec]; simp [hc]; simp
  | a :: b :: r => by
    refine ⟨?_, ?_, ?_, ?_⟩
    · rw [Pl.okEsc]; simp [hc]
    · rw [Pl.cnt]; simp [hc]
    · rw [Pl.plus]; simp [hc]
    · rw [Pl.dec]; simp [hc]

theorem at_plus (s : ByteArray) (k : Nat) (h : k < s.size) (hc : s[k] = 43) :
    okAt s k = okAt s (k + 1) ∧ cntAt s k = cntAt s (k + 1) ∧ plusAt s k = true ∧ decAt s k = 32 :: decAt s (k + 1) := by
  unfold okAt cntAt plusAt decAt
  rw [drop_at s k h, hc]
  have := cons_plain 43 (by decide) (s.data.toList.drop (k + 1))
  simpa using this

theorem at_other (s : ByteArray) (k : Nat) (h : k < s.size) (hc : s[k] ≠ 37) (hd : s[k] ≠ 43) :
    okAt s k = okAt s (k + 1) ∧ cntAt s k = cntAt s (k + 1) ∧ plusAt s k = plusAt s (k + 1) ∧ decAt s k = s[k] :: decAt s (k + 1) := by
  unfold okAt cntAt plusAt decAt
  rw [drop_at s k h]
  have := cons_plain s[k] hc (s.data.toList.drop (k + 1))
  rw [if_neg hd, if_neg hd] at this
  exact this

theorem u8_int (c : UInt8) (n : Nat) (hn : n < 256) : (((c.toNat : Int) == (n : Int)) = true ↔ c = UInt8.ofNat n) := by
  constructor
  · intro h
    have h1 : c.toNat = n := by have h2 : (c.toNat : Int) = (n : Int) := by simpa using h
                                omega
    rw [← h1]; simp
  · intro h
    subst h
    simp [Nat.mod_eq_of_lt hn]
theorem u8_ne (c : UInt8) (n : Nat) (hn : n < 256) (h : c ≠ UInt8.ofNat n) : ((c.toNat : Int) == (n : Int)) = false := by
  cases e : ((c.toNat : Int) == (n : Int)) with
  | false => rfl
  | true => exact absurd ((u8_int c n hn).1 e) h
theorem byte_in (c : UInt8) : 0 ≤ (c.toNat : Int) ∧ (c.toNat : Int) < 256 := by have := c.toNat_lt; omega

theorem index_at (s : ByteArray) (k j : Nat) (h : k + j < s.size) (W : World) : (Instr.index 9 (.string s) (.int .i64 ((k : Int) + (j : Int)))).run Tryf.prog W = .ok (.int .u8 s[k + j].toNat) W := by
  rw [run_index_string W 9 s .i64 _ Tryf.underlying9, dif_pos (by omega)]
  have e : ((k : Int) + (j : Int)).toNat = k + j := by omega
  simp only [e]

theorem wrap_small (n : Int) (h0 : 0 ≤ n) (h1 : n ≤ 16777300) : IntKind.i64.wrap n = n := by
  rw [IntKind.wrap_i64]; omega

theorem two_eq (a b : UInt8) : bits BinOp.or IntKind.u8 (IntKind.u8.wrap (↑(Pl.unh a).toNat * 16)) ↑(Pl.unh b).toNat = ((Pl.two a b).toNat : Int) := by
  have ha := (Pl.unh a).toNat_lt
  have hb := (Pl.unh b).toNat_lt
  have e1 : IntKind.u8.wrap (((Pl.unh a).toNat : Int) * 16) = (((Pl.unh a).toNat * 16 % 256 : Nat) : Int) := by
    rw [IntKind.wrap_u8']; omega
  rw [e1, u8_or_nat _ _ (by omega) (by omega)]
  unfold Pl.two
  rw [UInt8.toNat_or, UInt8.toNat_shiftLeft]
  congr 2
  show _ = (Pl.unh a).toNat <<< 4 % 256
  rw [Nat.shiftLeft_eq]

/-- how unescape ends. -/
def UnescEnds (s : ByteArray) (w : World) (e : Ending) (w' : World) : Prop :=
  (Pl.okEsc s.data.toList = true ∧ e = .returned (.tuple #[.string ⟨(Pl.dec s.data.toList).toArray⟩, .nilIface]) ∧ Below w.heap.size w w') ∨
  (Pl.okEsc s.data.toList = false ∧ ∃ x, e = .returned (.tuple #[.string ⟨#[]⟩, .iface 74 (.string x)]) ∧ Below w.heap.size w w')

set_option maxRecDepth 100000 in
set_option maxHeartbeats 4000000 in
theorem unescape_any (s : ByteArray) (w : World) (hs : s.size ≤ 16777216) (hT : TabAt w) :
    Calls Tryf.prog 34 #[.string s, .int .u8 32] w (UnescEnds s w) := by
  have HT := hide hT
  clear hT
  go_enter Tryf.func34, Tryf.ntmps34
  go_wp2
  go_loop [0, 6, 7, 8] (fun sv n hp i => ∃ (k m : Nat) (p : Bool), sv = .string s ∧ k ≤ s.size ∧ i = .int .i64 k ∧ m ≤ k ∧ n = .int .i64 m ∧ hp = .bool p ∧ okAt s 0 = okAt s k ∧ m + cntAt s k = cntAt s 0 ∧ (p || plusAt s k) = plusAt s 0) (fun _ _ _ i => s.size - (intOf i).toNat)
  case atStart => exact ⟨0, 0, false, rfl, Nat.zero_le _, rfl, Nat.le_refl _, rfl, rfl, rfl, by simp, by simp⟩
  case round =>
    obtain ⟨k, m, p, rfl, hk, rfl, hmk, rfl, rfl, hok, hcn, hpl⟩ := hrel
    have HR := hide (And.intro hok (And.intro hcn hpl))
    clear hok hcn hpl
    by_cases hlt : k < s.size
    · by_cases hc : s[k] = 37
      · have hb37 : ((s[k].toNat : Int) == 37) = true := (u8_int s[k] 37 (by decide)).2 hc
        by_cases h2 : k + 2 < s.size
        · have hes := at_esc s k h2 hc
          have HE := hide hes
          clear hc hes
          have hI1 := fun w h => ishex_any s[k + 1] w h
          have hI2 := fun w h => ishex_any s[k + 2] w h
          cases h1x : Pl.hexB s[k + 1]
          · rw [h1x] at hI1
            have HI1 := hide hI1
            have HX := hide h1x
            clear hI1 hI2 h1x
            go_wp2_with (go_at_call 39; refine (unhide HI1 _ (by exact unhide HT)).mono ?_; rintro e w' ⟨rfl, rfl⟩)
            all_goals
              go_ret2
              exact .inr ⟨by have e := (unhide HR).1; rw [(unhide HE).1, unhide HX] at e; exact e, _, rfl, Below.refl _ _⟩
          · cases h2x : Pl.hexB s[k + 2]
            · rw [h1x] at hI1
              rw [h2x] at hI2
              have HI1 := hide hI1
              have HI2 := hide hI2
              have HX := hide h2x
              clear hI1 hI2 h1x h2x
              go_wp2_with fail
              refine (unhide HI1 _ (by exact unhide HT)).mono ?_
              rintro e w' ⟨rfl, rfl⟩
              go_wp2_with fail
              refine (unhide HI2 _ (by exact unhide HT)).mono ?_
              rintro e w' ⟨rfl, rfl⟩
              go_wp2
              all_goals
                go_ret2
                exact .inr ⟨by have e := (unhide HR).1; rw [(unhide HE).1, unhide HX] at e; simpa [okAt] using e, _, rfl, Below.refl _ _⟩
            · rw [h1x] at hI1
              rw [h2x] at hI2
              have HI1 := hide hI1
              have HI2 := hide hI2
              have HX := hide (And.intro h1x h2x)
              clear hI1 hI2 h1x h2x
              go_wp2_with fail
              refine (unhide HI1 _ (by exact unhide HT)).mono ?_
              rintro e w' ⟨rfl, rfl⟩
              go_wp2_with fail
              refine (unhide HI2 _ (by exact unhide HT)).mono ?_
              rintro e w' ⟨rfl, rfl⟩
              go_wp2
              go_round
              case rel => exact ⟨k + 3, m + 1, p, rfl, by omega, by go_num, by omega, by go_num, rfl, by rw [(unhide HR).1, (unhide HE).1, (unhide HX).1, (unhide HX).2]; rfl, by rw [← (unhide HR).2.1, (unhide HE).2.1]; omega, by rw [← (unhide HR).2.2, (unhide HE).2.2.1]⟩
              case measure => simp [intOf]; omega
        · have hsh := at_short s k hlt (by omega) hc
          have HS := hide hsh
          clear hsh hc
          have hb2 : decide ((s.size : Int) ≤ (k : Int) + 2) = true := decide_eq_true (by omega)
          go_wp2
          all_goals
            go_ret2
            exact .inr ⟨by have e := (unhide HR).1; rw [unhide HS] at e; exact e, _, rfl, Below.refl _ _⟩
      · have hb37 : ((s[k].toNat : Int) == 37) = false := u8_ne s[k] 37 (by decide) hc
        by_cases hd : s[k] = 43
        · have hb43 : ((s[k].toNat : Int) == 43) = true := (u8_int s[k] 43 (by decide)).2 hd
          have HE := hide (at_plus s k hlt hd)
          clear hc hd
          go_wp2
          go_round
          case rel => exact ⟨k + 1, m, true, rfl, by omega, by go_num, by omega, rfl, rfl, by rw [(unhide HR).1, (unhide HE).1], by rw [← (unhide HR).2.1, (unhide HE).2.1], by rw [← (unhide HR).2.2, (unhide HE).2.2.1]; simp⟩
          case measure => simp [intOf]; omega
        · have hb43 : ((s[k].toNat : Int) == 43) = false := u8_ne s[k] 43 (by decide) hd
          have HE := hide (at_other s k hlt hc hd)
          clear hc hd
          go_wp2
          go_round
          case rel => exact ⟨k + 1, m, p, rfl, by omega, by go_num, by omega, rfl, rfl, by rw [(unhide HR).1, (unhide HE).1], by rw [← (unhide HR).2.1, (unhide HE).2.1], by rw [← (unhide HR).2.2, (unhide HE).2.2.1]⟩
          case measure => simp [intOf]; omega
    · have hke : k = s.size := by omega
      have hend := at_end s k (by omega)
      have hall : okAt s 0 = true ∧ cntAt s 0 = m ∧ plusAt s 0 = p := by
        obtain ⟨r1, r2, r3⟩ := unhide HR
        obtain ⟨d1, d2, d3, _⟩ := hend
        rw [d1] at r1; rw [d2] at r2; rw [d3] at r3
        exact ⟨r1, by omega, by simpa using r3.symm⟩
      have HA := hide hall
      have hcm := Pl.cnt_le s.data.toList hall.1
      have hcm2 : 3 * m ≤ s.size := by have := hall.2.1; simp [cntAt] at this; rw [this] at hcm; simpa using hcm
      clear hall hend hke HR hcm
      by_cases hm0 : m = 0 ∧ p = false
      · obtain ⟨rfl, rfl⟩ := hm0
        go_wp2
        go_ret2
        exact .inl ⟨(unhide HA).1, by have := Pl.dec_plain _ (unhide HA).1 (unhide HA).2.1 (unhide HA).2.2; rw [show Pl.dec s.data.toList = s.data.toList from this]; rfl, Below.refl _ _⟩
      · have HA2 : Hid (okAt s 0 = true) := (unhide HA).1
        clear HA
        have hgrow := fun (n : Nat) (hn : n ≤ s.size) => Tryf.Builder_Grow_fresh w.heap.size w.heap.size n (w.alloc (.cells #[.pointer none, .slice none 0 0] 80)) (Nat.le_refl _) (World.alloc_heap_new w _) (by simp) (by omega)
        have HG := hide hgrow
        clear hgrow
        have hms : ((s.size : Int) - 2 * (m : Int)) = ((s.size - 2 * m : Nat) : Int) := by omega
        have HM := hide hms
        clear hms
        rcases (show (m = 0 ∧ p = true) ∨ ((m : Int) == 0) = false by
          by_cases h : m = 0
          · left; refine ⟨h, ?_⟩; cases p <;> simp_all
          · right; simpa using h) with ⟨rfl, rfl⟩ | hmb
        · clear HM hm0
          go_wp2_with fail
          refine (unhide HG s.size (Nat.le_refl _)).mono ?_
          rintro e w1 ⟨rfl, hbu, hbel⟩
          have hbel1 : Below w.heap.size w w1 := ((Below.refl _ w).alloc (Nat.le_refl _) _).trans hbel
          have HB := hide (And.intro (Or.inr hbu : Lib.IsBuilder 80 5 w.heap.size w.heap.size (Lib.byteCells []) w1) hbel1)
          clear hbu hbel hbel1 HG
          go_wp2
          go_loopw [12] (fun i wr => ∃ (k : Nat) (l : List UInt8), k ≤ s.size ∧ i = .int .i64 k ∧ l.length ≤ k ∧ l ++ decAt s k = decAt s 0 ∧ okAt s k = true ∧ Hid (Lib.IsBuilder 80 5 w.heap.size w.heap.size (Lib.byteCells l) wr ∧ Below w.heap.size w wr)) (fun i _ => s.size - (intOf i).toNat)
          case atStart => exact ⟨0, [], Nat.zero_le _, rfl, by simp, rfl, unhide HA2, HB⟩
          case round =>
            obtain ⟨k, l, hk, rfl, hlk, hdec, hok, HBB⟩ := hrel
            have HD := hide (And.intro hdec hok)
            clear hdec hok
            by_cases hlt : k < s.size
            · by_cases hc : s[k] = 37
              · have hb37 : ((s[k].toNat : Int) == 37) = true := (u8_int s[k] 37 (by decide)).2 hc
                by_cases h2 : k + 2 < s.size
                · have HE := hide (at_esc s k h2 hc)
                  clear hc
                  have hwb := fun (c : Int) W (h : Lib.IsBuilder 80 5 w.heap.size w.heap.size (Lib.byteCells l) W) (hz : w.heap.size ≤ W.heap.size) => Tryf.Builder_WriteByte w.heap.size w.heap.size (Lib.byteCells l) c W h (by rw [Lib.byteCells_length]; omega) hz
                  have HW := hide hwb
                  clear hwb
                  have hw1 := wrap_small ((k : Int) + 1) (by omega) (by omega)
                  have hw2 := wrap_small ((k : Int) + 2) (by omega) (by omega)
                  have hi1 : ∀ W, (Instr.index 9 (.string s) (.int .i64 ((k : Int) + 1))).run Tryf.prog W = .ok (.int .u8 s[k + 1].toNat) W := fun W => index_at s k 1 (by omega) W
                  have hi2 : ∀ W, (Instr.index 9 (.string s) (.int .i64 ((k : Int) + 2))).run Tryf.prog W = .ok (.int .u8 s[k + 2].toNat) W := fun W => index_at s k 2 (by omega) W
                  go_wp2_with fail
                  go_region_held (fun _ => True) (trivial) (first | (go_at_call 40; refine (unhex_any _ _).mono ?_; rintro e w' ⟨rfl, rfl⟩) | (go_at_call 43; refine (unhide HW _ _ (by exact (unhide HBB).1) (by exact (unhide HBB).2.size)).mono ?_; rintro e w2 ⟨rfl, hbu2, hbel2⟩))
                  all_goals
                    have HB2 : Hid (Lib.IsBuilder 80 5 w.heap.size w.heap.size (Lib.byteCells (l ++ [Pl.two s[k + 1] s[k + 2]])) w2 ∧ Below w.heap.size w w2) := by
                      rw [Lib.byteCells_append]
                      rw [two_eq] at hbu2
                      exact ⟨.inr hbu2, ((unhide HBB).2.drew).trans hbel2⟩
                    clear hbu2 hbel2 HW HBB
                    go_wp2
                    go_roundw
                    case rel => exact ⟨k + 3, l ++ [Pl.two s[k + 1] s[k + 2]], by omega, by go_num, by simp; omega, by rw [← (unhide HD).1, (unhide HE).2.2.2]; simp, by have e := (unhide HD).2; rw [(unhide HE).1] at e; simp at e; exact e.2, HB2⟩
                    case measure => simp [intOf]; omega
                · exfalso
                  have e := (unhide HD).2
                  rw [at_short s k hlt (by omega) hc] at e
                  cases e
              · have hb37 : ((s[k].toNat : Int) == 37) = false := u8_ne s[k] 37 (by decide) hc
                by_cases hd : s[k] = 43
                · have hb43 : ((s[k].toNat : Int) == 43) = true := (u8_int s[k] 43 (by decide)).2 hd
                  have HE := hide (at_plus s k hlt hd)
                  have hwb := fun W (h : W = wr) => Tryf.Builder_WriteByte w.heap.size w.heap.size (Lib.byteCells l) 32 W (h ▸ (unhide HBB).1) (by rw [Lib.byteCells_length]; omega) (h ▸ (unhide HBB).2.size)
                  have HW := hide hwb
                  clear hc hd hwb
                  go_wp2_with fail
                  refine (unhide HW _ rfl).mono ?_
                  rintro e w2 ⟨rfl, hbu2, hbel2⟩
                  have HB2 : Hid (Lib.IsBuilder 80 5 w.heap.size w.heap.size (Lib.byteCells (l ++ [32])) w2 ∧ Below w.heap.size w w2) := by
                    rw [Lib.byteCells_append]
                    exact ⟨.inr hbu2, (unhide HBB).2.trans hbel2⟩
                  clear hbu2 hbel2 HW HBB
                  go_wp2
                  go_roundw
                  case rel => exact ⟨k + 1, l ++ [32], by omega, by go_num, by simp; omega, by rw [← (unhide HD).1, (unhide HE).2.2.2]; simp, by rw [← (unhide HE).1]; exact (unhide HD).2, HB2⟩
                  case measure => simp [intOf]; omega
                · have hb43 : ((s[k].toNat : Int) == 43) = false := u8_ne s[k] 43 (by decide) hd
                  have HE := hide (at_other s k hlt hc hd)
                  have hwb := fun W (h : W = wr) => Tryf.Builder_WriteByte w.heap.size w.heap.size (Lib.byteCells l) s[k].toNat W (h ▸ (unhide HBB).1) (by rw [Lib.byteCells_length]; omega) (h ▸ (unhide HBB).2.size)
                  have HW := hide hwb
                  clear hc hd hwb
                  go_wp2_with fail
                  refine (unhide HW _ rfl).mono ?_
                  rintro e w2 ⟨rfl, hbu2, hbel2⟩
                  have HB2 : Hid (Lib.IsBuilder 80 5 w.heap.size w.heap.size (Lib.byteCells (l ++ [s[k]])) w2 ∧ Below w.heap.size w w2) := by
                    rw [Lib.byteCells_append]
                    exact ⟨.inr hbu2, (unhide HBB).2.trans hbel2⟩
                  clear hbu2 hbel2 HW HBB
                  go_wp2
                  go_roundw
                  case rel => exact ⟨k + 1, l ++ [s[k]], by omega, by go_num, by simp; omega, by rw [← (unhide HD).1, (unhide HE).2.2.2]; simp, by rw [← (unhide HE).1]; exact (unhide HD).2, HB2⟩
                  case measure => simp [intOf]; omega
            · have hd0 := (at_end s k (by omega)).2.2.2
              have hl0 : l = decAt s 0 := by have := (unhide HD).1; rw [hd0] at this; simpa using this
              have HL := hide hl0
              have hst := fun W (h : W = wr) => Tryf.Builder_String_any w.heap.size w.heap.size l W (h ▸ (unhide HBB).1) (h ▸ (unhide HBB).2.size)
              have HW := hide hst
              clear hd0 hl0 hst
              go_wp2_with fail
              refine (unhide HW _ rfl).mono ?_
              rintro e w2 ⟨rfl, hbel2⟩
              have HB2 : Hid (Below w.heap.size w w2) := (unhide HBB).2.trans hbel2
              clear hbel2 HW HBB
              go_wp2
              go_ret2
              exact .inl ⟨unhide HA2, by rw [unhide HL]; rfl, unhide HB2⟩
        · clear hm0
          go_wp2_with fail
          rw [unhide HM]
          refine (unhide HG (s.size - 2 * m) (by omega)).mono ?_
          rintro e w1 ⟨rfl, hbu, hbel⟩
          have hbel1 : Below w.heap.size w w1 := ((Below.refl _ w).alloc (Nat.le_refl _) _).trans hbel
          have HB := hide (And.intro (Or.inr hbu : Lib.IsBuilder 80 5 w.heap.size w.heap.size (Lib.byteCells []) w1) hbel1)
          clear hbu hbel hbel1 HG
          go_wp2
          go_loopw [12] (fun i wr => ∃ (k : Nat) (l : List UInt8), k ≤ s.size ∧ i = .int .i64 k ∧ l.length ≤ k ∧ l ++ decAt s k = decAt s 0 ∧ okAt s k = true ∧ Hid (Lib.IsBuilder 80 5 w.heap.size w.heap.size (Lib.byteCells l) wr ∧ Below w.heap.size w wr)) (fun i _ => s.size - (intOf i).toNat)
          case atStart => exact ⟨0, [], Nat.zero_le _, rfl, by simp, rfl, unhide HA2, HB⟩
          case round =>
            obtain ⟨k, l, hk, rfl, hlk, hdec, hok, HBB⟩ := hrel
            have HD := hide (And.intro hdec hok)
            clear hdec hok
            by_cases hlt : k < s.size
            · by_cases hc : s[k] = 37
              · have hb37 : ((s[k].toNat : Int) == 37) = true := (u8_int s[k] 37 (by decide)).2 hc
                by_cases h2 : k + 2 < s.size
                · have HE := hide (at_esc s k h2 hc)
                  clear hc
                  have hwb := fun (c : Int) W (h : Lib.IsBuilder 80 5 w.heap.size w.heap.size (Lib.byteCells l) W) (hz : w.heap.size ≤ W.heap.size) => Tryf.Builder_WriteByte w.heap.size w.heap.size (Lib.byteCells l) c W h (by rw [Lib.byteCells_length]; omega) hz
                  have HW := hide hwb
                  clear hwb
                  have hw1 := wrap_small ((k : Int) + 1) (by omega) (by omega)
                  have hw2 := wrap_small ((k : Int) + 2) (by omega) (by omega)
                  have hi1 : ∀ W, (Instr.index 9 (.string s) (.int .i64 ((k : Int) + 1))).run Tryf.prog W = .ok (.int .u8 s[k + 1].toNat) W := fun W => index_at s k 1 (by omega) W
                  have hi2 : ∀ W, (Instr.index 9 (.string s) (.int .i64 ((k : Int) + 2))).run Tryf.prog W = .ok (.int .u8 s[k + 2].toNat) W := fun W => index_at s k 2 (by omega) W
                  go_wp2_with fail
                  go_region_held (fun _ => True) (trivial) (first | (go_at_call 40; refine (unhex_any _ _).mono ?_; rintro e w' ⟨rfl, rfl⟩) | (go_at_call 43; refine (unhide HW _ _ (by exact (unhide HBB).1) (by exact (unhide HBB).2.size)).mono ?_; rintro e w2 ⟨rfl, hbu2, hbel2⟩))
                  all_goals
                    have HB2 : Hid (Lib.IsBuilder 80 5 w.heap.size w.heap.size (Lib.byteCells (l ++ [Pl.two s[k + 1] s[k + 2]])) w2 ∧ Below w.heap.size w w2) := by
                      rw [Lib.byteCells_append]
                      rw [two_eq] at hbu2
                      exact ⟨.inr hbu2, ((unhide HBB).2.drew).trans hbel2⟩
                    clear hbu2 hbel2 HW HBB
                    go_wp2
                    go_roundw
                    case rel => exact ⟨k + 3, l ++ [Pl.two s[k + 1] s[k + 2]], by omega, by go_num, by simp; omega, by rw [← (unhide HD).1, (unhide HE).2.2.2]; simp, by have e := (unhide HD).2; rw [(unhide HE).1] at e; simp at e; exact e.2, HB2⟩
                    case measure => simp [intOf]; omega
                · exfalso
                  have e := (unhide HD).2
                  rw [at_short s k hlt (by omega) hc] at e
                  cases e
              · have hb37 : ((s[k].toNat : Int) == 37) = false := u8_ne s[k] 37 (by decide) hc
                by_cases hd : s[k] = 43
                · have hb43 : ((s[k].toNat : Int) == 43) = true := (u8_int s[k] 43 (by decide)).2 hd
                  have HE := hide (at_plus s k hlt hd)
                  have hwb := fun W (h : W = wr) => Tryf.Builder_WriteByte w.heap.size w.heap.size (Lib.byteCells l) 32 W (h ▸ (unhide HBB).1) (by rw [Lib.byteCells_length]; omega) (h ▸ (unhide HBB).2.size)
                  have HW := hide hwb
                  clear hc hd hwb
                  go_wp2_with fail
                  refine (unhide HW _ rfl).mono ?_
                  rintro e w2 ⟨rfl, hbu2, hbel2⟩
                  have HB2 : Hid (Lib.IsBuilder 80 5 w.heap.size w.heap.size (Lib.byteCells (l ++ [32])) w2 ∧ Below w.heap.size w w2) := by
                    rw [Lib.byteCells_append]
                    exact ⟨.inr hbu2, (unhide HBB).2.trans hbel2⟩
                  clear hbu2 hbel2 HW HBB
                  go_wp2
                  go_roundw
                  case rel => exact ⟨k + 1, l ++ [32], by omega, by go_num, by simp; omega, by rw [← (unhide HD).1, (unhide HE).2.2.2]; simp, by rw [← (unhide HE).1]; exact (unhide HD).2, HB2⟩
                  case measure => simp [intOf]; omega
                · have hb43 : ((s[k].toNat : Int) == 43) = false := u8_ne s[k] 43 (by decide) hd
                  have HE := hide (at_other s k hlt hc hd)
                  have hwb := fun W (h : W = wr) => Tryf.Builder_WriteByte w.heap.size w.heap.size (Lib.byteCells l) s[k].toNat W (h ▸ (unhide HBB).1) (by rw [Lib.byteCells_length]; omega) (h ▸ (unhide HBB).2.size)
                  have HW := hide hwb
                  clear hc hd hwb
                  go_wp2_with fail
                  refine (unhide HW _ rfl).mono ?_
                  rintro e w2 ⟨rfl, hbu2, hbel2⟩
                  have HB2 : Hid (Lib.IsBuilder 80 5 w.heap.size w.heap.size (Lib.byteCells (l ++ [s[k]])) w2 ∧ Below w.heap.size w w2) := by
                    rw [Lib.byteCells_append]
                    exact ⟨.inr hbu2, (unhide HBB).2.trans hbel2⟩
                  clear hbu2 hbel2 HW HBB
                  go_wp2
                  go_roundw
                  case rel => exact ⟨k + 1, l ++ [s[k]], by omega, by go_num, by simp; omega, by rw [← (unhide HD).1, (unhide HE).2.2.2]; simp, by rw [← (unhide HE).1]; exact (unhide HD).2, HB2⟩
                  case measure => simp [intOf]; omega
            · have hd0 := (at_end s k (by omega)).2.2.2
              have hl0 : l = decAt s 0 := by have := (unhide HD).1; rw [hd0] at this; simpa using this
              have HL := hide hl0
              have hst := fun W (h : W = wr) => Tryf.Builder_String_any w.heap.size w.heap.size l W (h ▸ (unhide HBB).1) (h ▸ (unhide HBB).2.size)
              have HW := hide hst
              clear hd0 hl0 hst
              go_wp2_with fail
              refine (unhide HW _ rfl).mono ?_
              rintro e w2 ⟨rfl, hbel2⟩
              have HB2 : Hid (Below w.heap.size w w2) := (unhide HBB).2.trans hbel2
              clear hbel2 HW HBB
              go_wp2
              go_ret2
              exact .inl ⟨unhide HA2, by rw [unhide HL]; rfl, unhide HB2⟩

end Go.Proofs.Qxb6614997aFmt
