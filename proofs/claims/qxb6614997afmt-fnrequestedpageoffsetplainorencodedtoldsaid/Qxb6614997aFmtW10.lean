import Derived.Test.Qxb6614997aFmtW9
import Derived.Test.Qxb6614997aFmtPlain5
import Derived.OwnWalk
import Derived.Deep.RegionLaw
import Derived.Laws.OwnMore
import Derived.Laws.BitsAllLaws
namespace Go.Proofs.Qxb6614997aFmt
open Go.RowKit

set_option maxHeartbeats 1000000 in
theorem zzBytes8_any (q s : ByteArray) (w : World) (hq : q.size ≤ maxLen) (hs : s.size ≤ maxLen) :
    Calls Tryf.prog 8 #[.string q, .string s] w fun e w' => ∃ b, e = .returned (.bool b) ∧ w' = w := by
  unfold maxLen at hq hs
  go_enter Tryf.func8, Tryf.ntmps8
  go_wp2
  all_goals
    go_ret
    exact ⟨_, rfl, rfl⟩

/-- 'append' within the capacity, as one step of a region that draws. -/
theorem step_append_fits {P : Program} {ops : Array Oper} {o : Oper} {a : Act} {w : World} {K : Act → World → Prop} {Q : Exit → Act → World → Prop} {E : Prop}
    (hg : o.guard = none) (s x : Operand) (t : TypeId) (hop : o.op = Op.call { callee := Callee.builtin Builtin.append, args := #[s, x], argTypes := #[t, t] })
    (base : Nat) (e : TypeId) (i : TypeInfo) (size : Nat) (h1 : P.underlying t = some (.slice e)) (h2 : P.info? e = some i) (h4 : i.size = size)
    (g k cap : Nat) (xs : List Value) (hs : a.eval s = .slice (some ⟨g, 0, none⟩) k cap) (hown : w.ownsRow base e size (.slice (some ⟨g, 0, none⟩) k cap) k xs) (ad : Addr) (m c : Nat) (news : List Value) (hx : a.eval x = .slice (some ad) m c) (hn : news.length = m * size)
    (hc : ∀ j u, news[j]? = some u → w.cell? (ad.add j) = some u) (h1c : ∀ u ∈ news, u.oneCell' = true) (b1 : k + m ≤ cap)
    (hK : ∀ w', w'.ownsRow base e size (.slice (some ⟨g, 0, none⟩) (k + m) cap) (k + m) (xs ++ news) → w.grownBy w' (some g) → K (a.put o.dst (.slice (some ⟨g, 0, none⟩) (k + m) cap)) w') :
    if Region.wanted o (yielded ops a.tmps) = true then Oper.wp P o a w K Q else E := by
  have hw : Region.wanted o (yielded ops a.tmps) = true := by simp [Region.wanted, hg]
  rw [if_pos hw]
  obtain ⟨w', hrun, r1, r2⟩ := run_append_fits (P := P) w base t o.type e i size h1 h2 h4 g k cap xs hown ad m c news hn hc h1c b1
  unfold Oper.wp
  simp [execOp, hop, resolve, invoke, builtin, hs, hx, hrun, Result.andThen]
  exact hK _ r1 r2

theorem Tryf.info5 : (Tryf.prog.info? 5).map (fun i => (i.zero, i.size, i.bytes)) = some (some (.int .u8 0), 1, 1) := by kernel_rfl

/-- bytes as cells. -/
def cellsOfBytes (l : List UInt8) : List Value := l.map fun c => .int .u8 (c.toNat : Int)

theorem hex_val : ∀ n : Fin 16, (({ data := #[48, 49, 50, 51, 52, 53, 54, 55, 56, 57, 65, 66, 67, 68, 69, 70] } : ByteArray)[n.val]'n.isLt) = Pl.hexAt n.val := by decide
theorem hex_at (j : Nat) (hj : j < 16) (x : Int) (hx : x = (j : Int)) (W : World) : (Instr.index 9 (.string { data := #[48, 49, 50, 51, 52, 53, 54, 55, 56, 57, 65, 66, 67, 68, 69, 70] }) (.int .u8 x)).run Tryf.prog W = .ok (.int .u8 ((Pl.hexAt j).toNat : Int)) W := by
  subst hx
  rw [run_index_string W 9 _ .u8 _ Tryf.underlying9, dif_pos ⟨by omega, by show (j : Int) < ((16 : Nat) : Int); omega⟩]
  have e := hex_val ⟨j, hj⟩
  simp only [Int.toNat_natCast]
  rw [← e]
theorem hex_hi (c : UInt8) (W : World) : (Instr.index 9 (.string { data := #[48, 49, 50, 51, 52, 53, 54, 55, 56, 57, 65, 66, 67, 68, 69, 70] }) (.int .u8 ((c.toNat : Int) / 16))).run Tryf.prog W = .ok (.int .u8 ((Pl.hexAt (c.toNat / 16)).toNat : Int)) W :=
  hex_at (c.toNat / 16) (by have := c.toNat_lt; omega) _ (by omega) W
theorem bits_lo : ∀ c : Fin 256, bits BinOp.and IntKind.u8 (c.val : Int) 15 = ((c.val % 16 : Nat) : Int) := by decide +kernel
theorem hex_lo (c : UInt8) (W : World) : (Instr.index 9 (.string { data := #[48, 49, 50, 51, 52, 53, 54, 55, 56, 57, 65, 66, 67, 68, 69, 70] }) (.int .u8 (bits BinOp.and IntKind.u8 (c.toNat : Int) 15))).run Tryf.prog W = .ok (.int .u8 ((Pl.hexAt (c.toNat % 16)).toNat : Int)) W :=
  hex_at (c.toNat % 16) (by omega) _ (bits_lo ⟨c.toNat, c.toNat_lt⟩) W

theorem three_new (w : World) (x y z : UInt8) : ∀ j u, (cellsOfBytes [x, y, z])[j]? = some u → ((w.alloc (.cells #[.int .u8 (x.toNat : Int), .int .u8 (y.toNat : Int), .int .u8 (z.toNat : Int)] 5)).drew).cell? ((⟨w.heap.size, 0, none⟩ : Addr).add j) = some u := by
  intro j u hj
  rw [add_off]
  match j, hj with
  | 0, hj => simp [cellsOfBytes] at hj; subst hj; go_simp
  | 1, hj => simp [cellsOfBytes] at hj; subst hj; go_simp
  | 2, hj => simp [cellsOfBytes] at hj; subst hj; go_simp
  | j + 3, hj => simp [cellsOfBytes] at hj

set_option maxRecDepth 100000 in
set_option maxHeartbeats 2000000 in
theorem pct_any (s : ByteArray) (w : World) (hs : s.size ≤ 1048576) :
    Calls Tryf.prog 9 #[.string s] w fun e w' => ∃ r : ByteArray, Hid (r.data.toList = Pl.pct s.data.toList) ∧ r.size = 3 * s.size ∧ e = .returned (.string r) ∧ Below w.heap.size w w' := by
  obtain ⟨i0, hi, hz0, hz1, hz2⟩ := info_parts Tryf.info5
  have HI := hide (And.intro hi (And.intro hz0 (And.intro hz1 hz2)))
  clear hi hz0 hz1 hz2
  go_enter Tryf.func9, Tryf.ntmps9
  have hb2 : i0.bytes * (3 * s.size) ≤ 281474976710656 := by rw [(unhide HI).2.2.2]; omega
  have hb3 : 3 * s.size ≤ maxLen := by unfold maxLen; omega
  have HB := hide (And.intro hb2 hb3)
  clear hb2 hb3
  go_wp2_with (at_make; refine wpList_make_own _ rfl _ _ 39 rfl w.heap.size 5 i0 (.int .u8 0) 1 Tryf.underlying39 (unhide HI).1 (unhide HI).2.1 (unhide HI).2.2.1 .i64 .i64 _ (3 * s.size) rfl rfl (by omega) (unhide HB).1 (unhide HB).2 (Nat.le_refl _) ?_; intro w1 hown1 hgrow1)
  have HO := hide (And.intro hown1 ((Below.refl w.heap.size w).grown hgrow1 (Nat.le_refl _) (fun k e => by cases e)))
  clear hown1 hgrow1
  go_loopw [3, 4] (fun b i wr => ∃ k : Nat, k ≤ s.size ∧ i = .int .i64 k ∧ b = .slice (some ⟨w.heap.size, 0, none⟩) (3 * k) (3 * s.size) ∧
      Hid (wr.ownsRow w.heap.size 5 1 (.slice (some ⟨w.heap.size, 0, none⟩) (3 * k) (3 * s.size)) (3 * k) (cellsOfBytes (Pl.pct (s.data.toList.take k))) ∧ Below w.heap.size w wr)) (fun _ i _ => s.size - (intOf i).toNat)
  case atStart => exact ⟨0, Nat.zero_le _, rfl, rfl, HO⟩
  case round =>
    obtain ⟨k, hk, rfl, rfl, HR⟩ := hrel
    by_cases hlt : k < s.size
    · have hi1 := fun W => hex_hi s[k] W
      have hi2 := fun W => hex_lo s[k] W
      have hts := take_snoc s k hlt
      have HT : Hid (Pl.pct (s.data.toList.take (k + 1)) = Pl.pct (s.data.toList.take k) ++ [37, Pl.hexAt (s[k].toNat / 16), Pl.hexAt (s[k].toNat % 16)]) := by
        rw [hts, Pl.pct_append]; rfl
      clear hts
      go_wp2_with fail
      go_region_law (refine step_append_fits rfl (.tmp 19) (.tmp 26) 39 rfl w.heap.size 5 i0 1 Tryf.underlying39 (unhide HI).1 (unhide HI).2.2.1 w.heap.size (3 * k) (3 * s.size) (cellsOfBytes (Pl.pct (s.data.toList.take k))) (by simp [Act.eval]) (by exact (unhide HR).1.alloc _) ⟨wr.heap.size, 0, none⟩ 3 3 (cellsOfBytes [37, Pl.hexAt (s[k].toNat / 16), Pl.hexAt (s[k].toNat % 16)]) (by simp [Act.eval]) rfl (by exact three_new wr _ _ _) (by simp [cellsOfBytes, Value.oneCell']) (by omega) ?_; intro w2 hown2 hgrow2)
      all_goals
        have HR2 : Hid (w2.ownsRow w.heap.size 5 1 (.slice (some ⟨w.heap.size, 0, none⟩) (3 * (k + 1)) (3 * s.size)) (3 * (k + 1)) (cellsOfBytes (Pl.pct (s.data.toList.take (k + 1)))) ∧ Below w.heap.size w w2) := by
          rw [unhide HT]
          have e : cellsOfBytes (Pl.pct (s.data.toList.take k) ++ [37, Pl.hexAt (s[k].toNat / 16), Pl.hexAt (s[k].toNat % 16)]) = cellsOfBytes (Pl.pct (s.data.toList.take k)) ++ cellsOfBytes [37, Pl.hexAt (s[k].toNat / 16), Pl.hexAt (s[k].toNat % 16)] := by simp [cellsOfBytes]
          rw [e, show 3 * (k + 1) = 3 * k + 3 from by omega]
          exact ⟨hown2, (((unhide HR).2.alloc (unhide HR).2.size _).drew).grown hgrow2 (by have := (unhide HR).2.size; simp; omega) (fun j e => by cases e; exact Nat.le_refl _)⟩
        clear hown2 hgrow2 HR
        go_wp2
        go_roundw
        case rel => exact ⟨k + 1, by omega, by go_num, by rw [show 3 * (k + 1) = 3 * k + 3 from by omega], HR2⟩
        case measure => simp [intOf]; omega
    · have HC : Hid (∀ j (hj : j < (Pl.pct s.data.toList).length), wr.cell? ((⟨w.heap.size, 0, none⟩ : Addr).add j) = some (.int .u8 (((Pl.pct s.data.toList)[j]).toNat : Int))) := by
        have e : s.data.toList.take k = s.data.toList := List.take_of_length_le (by simp; omega)
        have h := (unhide HR).1
        rw [e] at h
        intro j hj
        exact h.cells (g := w.heap.size) rfl j _ (by simp [cellsOfBytes, hj])
      have hl : (Pl.pct s.data.toList).length = 3 * k := by rw [Pl.pct_length]; simp; omega
      have hcv := run_convert_bytes_back (P := Tryf.prog) wr 39 9 5 ⟨w.heap.size, 0, none⟩ (3 * s.size) (Pl.pct s.data.toList) Tryf.underlying39 Tryf.underlying5 Tryf.underlying9 (unhide HC)
      rw [hl] at hcv
      clear hl HC
      go_wp2
      go_ret
      exact ⟨⟨(Pl.pct s.data.toList).toArray⟩, (by simp : _ = _), by show (Pl.pct s.data.toList).toArray.size = _; simp [Pl.pct_length], rfl, (unhide HR).2⟩
end Go.Proofs.Qxb6614997aFmt
