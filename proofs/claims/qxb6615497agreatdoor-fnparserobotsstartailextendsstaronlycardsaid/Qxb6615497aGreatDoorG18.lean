import Derived.Test.Qxb6615497aGreatDoorG17
/- parseRobots at every body: the walk. -/
namespace Go.Proofs.Qxb6615497aGreatDoor
open Go Go.RowKit

theorem pinv_start {w w4 w6 : World} {A : Nat} {lvs : List Value}
    (hb34 : Below (((w.alloc (.cells #[.slice none 0 0, .int .i64 0] 26)).alloc (.cells #[.slice none 0 0, .int .i64 0] 26)).alloc (.cells #[.slice none 0 0, .int .i64 0] 26)).heap.size (((w.alloc (.cells #[.slice none 0 0, .int .i64 0] 26)).alloc (.cells #[.slice none 0 0, .int .i64 0] 26)).alloc (.cells #[.slice none 0 0, .int .i64 0] 26)) w4)
    (hb46 : Below w4.heap.size w4 w6) (hA : w4.heap.size ≤ A) (hAl : A < w6.heap.size) (hl : ∀ i x, lvs[i]? = some x → w6.cell? ⟨A, i, none⟩ = some x) : PInv w A lvs ([], 0) ([], 0) w6 := by
  have h4 : Below (w.heap.size + 3) (((w.alloc (.cells #[.slice none 0 0, .int .i64 0] 26)).alloc (.cells #[.slice none 0 0, .int .i64 0] 26)).alloc (.cells #[.slice none 0 0, .int .i64 0] 26)) w4 := by
    have e : (((w.alloc (.cells #[.slice none 0 0, .int .i64 0] 26)).alloc (.cells #[.slice none 0 0, .int .i64 0] 26)).alloc (.cells #[.slice none 0 0, .int .i64 0] 26)).heap.size = w.heap.size + 3 := by simp
    rw [e] at hb34; exact hb34
  have hz4 : w.heap.size + 3 ≤ w4.heap.size := by
    have := hb34.size
    simp at this; omega
  have h6 := h4.trans (hb46.mono hz4)
  have hz6 := hb46.size
  have hg := (groups_new w).2
  have c : ∀ x i, x < w.heap.size + 3 → w6.cell? ⟨x, i, none⟩ = (((w.alloc (.cells #[.slice none 0 0, .int .i64 0] 26)).alloc (.cells #[.slice none 0 0, .int .i64 0] 26)).alloc (.cells #[.slice none 0 0, .int .i64 0] 26)).cell? ⟨x, i, none⟩ := fun x i hx => h6.cell (p := ⟨x, i, none⟩) hx
  have f : ∀ x i, x < w.heap.size + 3 → w6.frozen? ⟨x, i, none⟩ = (((w.alloc (.cells #[.slice none 0 0, .int .i64 0] 26)).alloc (.cells #[.slice none 0 0, .int .i64 0] 26)).alloc (.cells #[.slice none 0 0, .int .i64 0] 26)).frozen? ⟨x, i, none⟩ := fun x i hx => h6.frozen (p := ⟨x, i, none⟩) hx
  refine ⟨hg.trans (h6.mono (by omega)), by omega, ?_, ?_, ?_, ?_, hl, by omega, hAl, .slice none 0 0, .slice none 0 0, ⟨?_, ?_, ?_, ?_, [], World.ownsRow_nil _ _ _ _, fun i a v h => by cases h⟩, ⟨?_, ?_, ?_, ?_, [], World.ownsRow_nil _ _ _ _, fun i a v h => by cases h⟩, (fun g h => by cases h), (fun h => by cases h), (fun h => by cases h)⟩
  all_goals first
    | (rw [c _ _ (by omega)]; go_simp)
    | (rw [f _ _ (by omega)]; go_simp)

theorem fS_star (tok V : ByteArray) (own star : List (Bool × ByteArray) × Int) (found toOwn toStar agents : Bool) (h : tokenOf V = starB) : fieldS tok keyAgent V ⟨own, star, found, toOwn, toStar, agents⟩ = ⟨own, star, found, agents && toOwn, true, true⟩ := by
  unfold fieldS; rw [if_pos rfl, if_pos h]
theorem fS_yes (tok V : ByteArray) (own star : List (Bool × ByteArray) × Int) (found toOwn toStar agents : Bool) (h : tokenOf V ≠ starB) (hf : foldE (tokenOf V) tok = true) : fieldS tok keyAgent V ⟨own, star, found, toOwn, toStar, agents⟩ = ⟨own, star, true, true, agents && toStar, true⟩ := by
  unfold fieldS; rw [if_pos rfl, if_neg h, if_pos hf]
theorem fS_no (tok V : ByteArray) (own star : List (Bool × ByteArray) × Int) (found toOwn toStar agents : Bool) (h : tokenOf V ≠ starB) (hf : foldE (tokenOf V) tok = false) : fieldS tok keyAgent V ⟨own, star, found, toOwn, toStar, agents⟩ = ⟨own, star, found, agents && toOwn, agents && toStar, true⟩ := by
  unfold fieldS; rw [if_pos rfl, if_neg h, if_neg (by rw [hf]; decide)]
theorem fS_key (tok K V : ByteArray) (own star : List (Bool × ByteArray) × Int) (found toOwn toStar agents : Bool) (hK : K = kAllow ∨ K = kDis ∨ K = kCrawl) : fieldS tok K V ⟨own, star, found, toOwn, toStar, agents⟩ = ⟨if toOwn then addG K V own else own, if toStar then addG K V star else star, found, toOwn, toStar, false⟩ := by
  have hne : K ≠ keyAgent := by rcases hK with rfl | rfl | rfl <;> decide
  unfold fieldS; rw [if_neg hne, if_pos hK]
theorem fS_other (tok K V : ByteArray) (s : St) (h0 : K ≠ keyAgent) (h1 : K ≠ kAllow) (h2 : K ≠ kDis) (h3 : K ≠ kCrawl) : fieldS tok K V s = s := by
  unfold fieldS; rw [if_neg h0, if_neg (by rintro (h | h | h) <;> contradiction)]

theorem ne_list (K : ByteArray) (l : List UInt8) (h : K ≠ ⟨l.toArray⟩) : (K.toList == l) = false := by
  rw [Lib.toList_data, beq_eq_false_iff_ne]
  intro e
  apply h
  cases K with
  | mk d => cases d; simp at e; rw [e]

/-- the rules that a slice of rules holds. -/
def RowIs (base : Nat) (row : Value) (rs : List (Bool × ByteArray)) (W : World) : Prop := ∃ xs, W.ownsRow base 47 5 row rs.length xs ∧ RuleXs rs xs

theorem row_form {W : World} {base n : Nat} {row : Value} {xs : List Value} (h : W.ownsRow base 47 5 row n xs) : ∃ p k, row = .slice p n k := by
  rcases h.2 with ⟨rfl, rfl⟩ | ⟨g, cap, cur, rfl, _⟩
  · exact ⟨_, _, rfl⟩
  · exact ⟨_, _, rfl⟩

theorem ret_set {w wr : World} {row u0 u1 : Value} {d : Int} {rs : List (Bool × ByteArray)} (r0 : wr.cell? ⟨w.heap.size, 0, none⟩ = some u0) (r1 : wr.cell? ⟨w.heap.size, 1, none⟩ = some u1) (hb : Below w.heap.size w wr) (hrow : RowIs (w.heap.size + 3) row rs wr) :
    ((wr.setCell ⟨w.heap.size, 0, none⟩ row).setCell ⟨w.heap.size, 1, none⟩ (.int .i64 d)).cell? ⟨w.heap.size, 0, none⟩ = some row ∧ ((wr.setCell ⟨w.heap.size, 0, none⟩ row).setCell ⟨w.heap.size, 1, none⟩ (.int .i64 d)).cell? ⟨w.heap.size, 1, none⟩ = some (.int .i64 d) ∧
      RowIs (w.heap.size + 3) row rs ((wr.setCell ⟨w.heap.size, 0, none⟩ row).setCell ⟨w.heap.size, 1, none⟩ (.int .i64 d)) ∧ Below w.heap.size w ((wr.setCell ⟨w.heap.size, 0, none⟩ row).setCell ⟨w.heap.size, 1, none⟩ (.int .i64 d)) := by
  obtain ⟨xs, ho, hx⟩ := hrow
  refine ⟨?_, ?_, ⟨xs, row_set (row_set ho _ _ _ (by omega)) _ _ _ (by omega), hx⟩, (hb.setCell (p := ⟨w.heap.size, 0, none⟩) (Nat.le_refl _) _).setCell (p := ⟨w.heap.size, 1, none⟩) (Nat.le_refl _) _⟩
  · rw [World.cell?_setCell_other _ _ _ _ (by simp), World.cell?_setCell_same' _ _ _ (by rw [r0]; rfl)]
  · exact World.cell?_setCell_same' _ _ _ (by rw [World.cell?_setCell_other _ _ _ _ (by simp), r1]; rfl)

theorem trimS_len (l cs : List UInt8) : (Lib.trimS l cs).length ≤ l.length := by
  have h1 : (Lib.trimS l cs).length ≤ (Lib.trimRightS l cs).length := by
    unfold Lib.trimS Lib.trimLeftS
    exact (List.dropWhile_suffix _).length_le
  have h2 := congrArg List.length (trimRight_take l cs)
  rw [List.length_take] at h2
  omega
theorem field_len (L k v : List UInt8) (h : fieldOf L = some (k, v)) : v.length ≤ L.length := by
  unfold fieldOf at h
  split at h
  · injection h with h
    injection h with h1 h2
    rw [← h2]
    have a1 := trimS_len ((noHash L).drop ((Lib.indexByte (noHash L) 58).toNat + 1)) [32, 9]
    rw [List.length_drop] at a1
    have a2 : (noHash L).length ≤ L.length := by
      unfold noHash
      split
      · rw [List.length_take]; omega
      · exact Nat.le_refl _
    omega
  · cases h

set_option maxHeartbeats 8000000 in
set_option maxRecDepth 100000 in
theorem parse_walk (bodyV tv : Value) (tok : ByteArray) (ls : List (List UInt8)) (lvs : List Value) (w : World) (hN : lvs.length = ls.length) (hN2 : ls.length ≤ 16777216) (htok : tok.size ≤ 16777216)
    (hlv : ∀ x ∈ lvs, ∃ p n c, x = .slice p n c)
    (hVs : ∀ L ∈ ls, L.length ≤ 1048576) (hT : FTabs w) (hR : RangeVar w) (hF : FoldTabs w) (hU : Lib.Utf8Tabs 4 5 w)
    (hTP : ∀ (W : World) (q : Nat), Below w.heap.size w W → W.cell? ⟨q, 0, none⟩ = some (.int .u8 239) → W.cell? ⟨q, 1, none⟩ = some (.int .u8 187) → W.cell? ⟨q, 2, none⟩ = some (.int .u8 191) → Calls Tryz.prog 27 #[bodyV, .slice (some ⟨q, 0, none⟩) 3 3] W fun e W' => e = .returned tv ∧ W' = W)
    (hFF : ∀ W : World, Below w.heap.size w W → Calls Tryz.prog 26 #[tv, .func (.func 19) #[] #[]] W fun e W' => ∃ A, e = .returned (.slice (some ⟨A, 0, none⟩) lvs.length lvs.length) ∧ W.heap.size ≤ A ∧ A < W'.heap.size ∧ (∀ i x, lvs[i]? = some x → W'.cell? ⟨A, i, none⟩ = some x) ∧ Below W.heap.size W W')
    (hRF : ∀ (i : Nat) (L : List UInt8) (x : Value), ls[i]? = some L → lvs[i]? = some x → ∀ W : World, Below w.heap.size w W → Calls Tryz.prog 28 #[x] W fun e W' => e = .returned (fieldV3 L) ∧ Below W.heap.size W W')
    (hcc : ∀ W : World, (convert 22 22 (.slice (some ⟨W.heap.size, 0, none⟩) 3 3)).run Tryz.prog (W.alloc (.cells #[.int .u8 239, .int .u8 187, .int .u8 191] 5)) = .ok (.slice (some ⟨W.heap.size, 0, none⟩) 3 3) (W.alloc (.cells #[.int .u8 239, .int .u8 187, .int .u8 191] 5 (3, 4)))) :
    Calls Tryz.prog 18 #[bodyV, .string tok] w fun e w' => ∃ p k, e = .returned (.agg #[.slice p (parseF tok ls).1.length k, .int .i64 (parseF tok ls).2]) ∧ RowIs (w.heap.size + 3) (.slice p (parseF tok ls).1.length k) (parseF tok ls).1 w' ∧ Below w.heap.size w w' := by
  obtain ⟨w3, hw3⟩ : ∃ w3, ((w.alloc (.cells #[.slice none 0 0, .int .i64 0] 26)).alloc (.cells #[.slice none 0 0, .int .i64 0] 26)).alloc (.cells #[.slice none 0 0, .int .i64 0] 26) = w3 := ⟨_, rfl⟩
  have hb3 := (groups_new w).2
  have hstart := fun w4 w6 A => pinv_start (w := w) (w4 := w4) (w6 := w6) (A := A) (lvs := lvs)
  rw [hw3] at hb3 hstart
  obtain ⟨w4, hw4⟩ : ∃ w4, w3.alloc (.cells #[.int .u8 239, .int .u8 187, .int .u8 191] 5 (3, 4)) = w4 := ⟨_, rfl⟩
  have hq0 : w4.cell? ⟨w3.heap.size, 0, none⟩ = some (.int .u8 239) := by rw [← hw4, World.cell?_alloc_mark]; rfl
  have hq1 : w4.cell? ⟨w3.heap.size, 1, none⟩ = some (.int .u8 187) := by rw [← hw4, World.cell?_alloc_mark]; rfl
  have hq2 : w4.cell? ⟨w3.heap.size, 2, none⟩ = some (.int .u8 191) := by rw [← hw4, World.cell?_alloc_mark]; rfl
  have hb34 : Below w3.heap.size w3 w4 := by rw [← hw4]; exact (Below.refl _ w3).alloc (Nat.le_refl _) _
  have hb4 := hb3.trans (hb34.mono hb3.size)
  have HTP := hide (hTP w4 w3.heap.size hb4 hq0 hq1 hq2)
  have HFF := hide (hFF w4 hb4)
  have HST := hide (fun w6 A => hstart w4 w6 A hb34)
  have HRF := hide hRF
  have HTabs := hide (And.intro hT (And.intro hR (And.intro hF hU)))
  have HLV := hide hlv
  have HVS := hide hVs
  have hcc3 := hcc w3
  clear hTP hFF hRF hcc hq0 hq1 hq2 hb3 hb4 hb34 hT hR hF hU hlv hVs hstart
  go_enter Tryz.func18, Tryz.ntmps18
  go_wp2_with (first
    | (go_at_call 27; refine (unhide HTP).mono ?_; rintro e w5 ⟨rfl, hw5⟩; obtain rfl := hw5.symm)
    | (go_at_call 26; refine (unhide HFF).mono ?_; rintro e w6 ⟨A, rfl, hA, hAl, hrow, hb46⟩))
  have HP0 := hide (unhide HST w6 A hb46 hA hAl hrow)
  clear HTP HFF hrow hb46 hA hAl hcc3 HST
  go_loopw [7, 8, 9, 10, 23] (fun s7 s8 s9 s10 s23 wx => ∃ (i : Nat) (s : St), s23 = .int .i64 i ∧ i ≤ lvs.length ∧ s7 = .bool s.found ∧ s8 = .bool s.toOwn ∧ s9 = .bool s.toStar ∧ s10 = .bool s.agents ∧ Hid (stAt tok ls i = s ∧ PInv w A lvs s.own s.star wx))
    (fun _ _ _ _ s23 _ => match s23 with | .int _ z => lvs.length - z.toNat | _ => 0)
  case atStart => exact ⟨0, stNew, rfl, by omega, rfl, rfl, rfl, rfl, ⟨rfl, unhide HP0⟩⟩
  case round =>
    clear HP0
    obtain ⟨i, ⟨own, star, found, toOwn, toStar, agents⟩, rfl, hin, rfl, rfl, rfl, rfl, HI⟩ := hrel
    dsimp only at HI ⊢
    by_cases hlt : i < lvs.length
    · have hiz : (i : Int) < (lvs.length : Int) := by omega
      obtain ⟨L, hL⟩ : ∃ L, ls[i]? = some L := ⟨_, List.getElem?_eq_getElem (by omega)⟩
      obtain ⟨x, hx⟩ : ∃ x, lvs[i]? = some x := ⟨_, List.getElem?_eq_getElem hlt⟩
      obtain ⟨lp, ln, lc, rfl⟩ := unhide HLV x (List.mem_of_getElem? hx)
      have hcell := (unhide HI).2.lines i _ hx
      have HR0 := hide (unhide HRF i L _ hL hx wr (unhide HI).2.below)
      have hst := stAt_succ tok ls i L hL
      rw [(unhide HI).1] at hst
      have hlens := stAt_len tok ls i (by omega)
      rw [(unhide HI).1] at hlens
      have hL2 := unhide HVS L (List.mem_of_getElem? hL)
      unfold fieldV3 at HR0
      unfold lineS at hst
      have hvlen := field_len L
      cases hfo : fieldOf L with
      | none =>
        rw [hfo] at HR0 hst
        have HS := hide hst
        clear hst hvlen hL hx hlens
        go_wp2_with (go_at_call 28; refine (unhide HR0).mono ?_; rintro e w7 ⟨rfl, hb7⟩)
        refine ⟨⟨i + 1, ⟨own, star, found, toOwn, toStar, agents⟩, by simp, by omega, rfl, rfl, rfl, rfl, ⟨unhide HS, (unhide HI).2.stay hb7⟩⟩, ?_⟩
        show lvs.length - ((i : Int) + 1).toNat < lvs.length - (i : Int).toNat
        omega
      | some kv =>
        obtain ⟨k, v⟩ := kv
        rw [hfo] at HR0 hst
        have hv2 := hvlen k v hfo
        dsimp only at HR0 hst hlens
        obtain ⟨K, hK⟩ : ∃ K, (⟨k.toArray⟩ : ByteArray) = K := ⟨_, rfl⟩
        obtain ⟨V, hV⟩ : ∃ V, (⟨v.toArray⟩ : ByteArray) = V := ⟨_, rfl⟩
        have hVsz : V.size ≤ 1048576 := by rw [← hV]; show v.toArray.size ≤ _; rw [List.size_toArray]; omega
        rw [hK, hV] at HR0 hst
        clear hvlen hL hx hK hV hfo hv2
        have hcase : K = ⟨#[117, 115, 101, 114, 45, 97, 103, 101, 110, 116]⟩ ∨ K = ⟨#[97, 108, 108, 111, 119]⟩ ∨ K = ⟨#[100, 105, 115, 97, 108, 108, 111, 119]⟩ ∨ K = ⟨#[99, 114, 97, 119, 108, 45, 100, 101, 108, 97, 121]⟩ ∨ (K ≠ keyAgent ∧ K ≠ kAllow ∧ K ≠ kDis ∧ K ≠ kCrawl) := by
          by_cases h0 : K = keyAgent
          · exact .inl h0
          by_cases h1 : K = kAllow
          · exact .inr (.inl h1)
          by_cases h2 : K = kDis
          · exact .inr (.inr (.inl h2))
          by_cases h3 : K = kCrawl
          · exact .inr (.inr (.inr (.inl h3)))
          exact .inr (.inr (.inr (.inr ⟨h0, h1, h2, h3⟩)))
        rcases hcase with rfl | rfl | rfl | rfl | ⟨n0, n1, n2, n3⟩
        · have HPT := hide (fun W => productToken_any V W)
          by_cases hs : tokenOf V = ⟨#[42]⟩
          · have HS := hide (hst.trans (fS_star tok V own star found toOwn toStar agents hs))
            rw [hs] at HPT
            clear hst hs hlens
            cases agents
            all_goals
              go_wp2_with (first
                | (go_at_call 28; refine (unhide HR0).mono ?_; rintro e w7 ⟨rfl, hb7⟩)
                | (go_at_call 29; refine (unhide HPT _).mono ?_; rintro e w8 ⟨rfl, hb8⟩))
              refine ⟨⟨i + 1, ⟨own, star, found, _, true, true⟩, by simp, by omega, rfl, rfl, rfl, rfl, ⟨unhide HS, ((unhide HI).2.stay hb7).stay hb8⟩⟩, ?_⟩
              show lvs.length - ((i : Int) + 1).toNat < lvs.length - (i : Int).toNat
              omega
          · have hVne : V ≠ ⟨#[42]⟩ := by rintro rfl; exact hs token_star
            have htb := token_bytes V hVne
            have hts := token_size V
            have hne := ne_list (tokenOf V) [42] hs
            have HEF := hide (fun (W : World) (hb : Below w.heap.size w W) => equalFold_any (tokenOf V) tok (by omega) htok (fun j h => (htb j h).1) W ((unhide HTabs).2.2.1.stay (Nat.le_refl _) hb) (Utf8Tabs_below (unhide HTabs).2.2.2 hb))
            have hst2 : stAt tok ls (i + 1) = if foldE (tokenOf V) tok then ⟨own, star, true, true, agents && toStar, true⟩ else ⟨own, star, found, agents && toOwn, agents && toStar, true⟩ := by
              split
              · rename_i hf; exact hst.trans (fS_yes tok V own star found toOwn toStar agents hs hf)
              · rename_i hf; exact hst.trans (fS_no tok V own star found toOwn toStar agents hs (by simpa using hf))
            generalize foldE (tokenOf V) tok = fb at HEF hst2
            generalize tokenOf V = TT at HPT HEF hne
            clear hst hs htb hts hlens hVne
            cases fb
            · have HS := hide hst2
              clear hst2
              cases agents
              all_goals
                go_wp2_with (first
                  | (go_at_call 28; refine (unhide HR0).mono ?_; rintro e w7 ⟨rfl, hb7⟩; have H7 := hide ((unhide HI).2.stay hb7))
                  | (go_at_call 29; refine (unhide HPT _).mono ?_; rintro e w8 ⟨rfl, hb8⟩; have H8 := hide ((unhide H7).stay hb8))
                  | (go_at_call 30; refine (unhide HEF _ (unhide H8).below).mono ?_; rintro e w9 ⟨rfl, hb9⟩))
                refine ⟨⟨i + 1, ⟨own, star, found, _, _, true⟩, by simp, by omega, rfl, rfl, rfl, rfl, ⟨unhide HS, (unhide H8).stay hb9⟩⟩, ?_⟩
                show lvs.length - ((i : Int) + 1).toNat < lvs.length - (i : Int).toNat
                omega
            · have HS := hide hst2
              clear hst2
              cases agents
              all_goals
                go_wp2_with (first
                  | (go_at_call 28; refine (unhide HR0).mono ?_; rintro e w7 ⟨rfl, hb7⟩; have H7 := hide ((unhide HI).2.stay hb7))
                  | (go_at_call 29; refine (unhide HPT _).mono ?_; rintro e w8 ⟨rfl, hb8⟩; have H8 := hide ((unhide H7).stay hb8))
                  | (go_at_call 30; refine (unhide HEF _ (unhide H8).below).mono ?_; rintro e w9 ⟨rfl, hb9⟩))
                refine ⟨⟨i + 1, ⟨own, star, true, true, _, true⟩, by simp, by omega, rfl, rfl, rfl, rfl, ⟨unhide HS, (unhide H8).stay hb9⟩⟩, ?_⟩
                show lvs.length - ((i : Int) + 1).toNat < lvs.length - (i : Int).toNat
                omega
        · have HS := hide (hst.trans (fS_key tok ⟨#[97, 108, 108, 111, 119]⟩ V own star found toOwn toStar agents (.inl rfl)))
          have HA1 := hide (fun (W : World) (h : PInv w A lvs own star W) => own_add ⟨#[97, 108, 108, 111, 119]⟩ V (.inl rfl) h (by omega) hVsz (unhide HTabs).1 (unhide HTabs).2.1)
          have HA2 := hide (fun (ow : List (Bool × ByteArray) × Int) (W : World) (h : PInv w A lvs ow star W) => star_add ⟨#[97, 108, 108, 111, 119]⟩ V (.inl rfl) h (by omega) hVsz (unhide HTabs).1 (unhide HTabs).2.1)
          clear hst hlens
          cases toOwn
          · cases toStar
            · go_wp2_with (go_at_call 28; refine (unhide HR0).mono ?_; rintro e w7 ⟨rfl, hb7⟩)
              refine ⟨⟨i + 1, ⟨own, star, found, false, false, false⟩, by simp, by omega, rfl, rfl, rfl, rfl, ⟨unhide HS, (unhide HI).2.stay hb7⟩⟩, ?_⟩
              show lvs.length - ((i : Int) + 1).toNat < lvs.length - (i : Int).toNat
              omega
            · go_wp2_with (first
                | (go_at_call 28; refine (unhide HR0).mono ?_; rintro e w7 ⟨rfl, hb7⟩; have H7 := hide ((unhide HI).2.stay hb7))
                | (go_at_call 31; refine (unhide HA2 _ _ (unhide H7)).mono ?_; rintro e w8 ⟨rfl, h8⟩; have H8 := hide h8; clear h8))
              refine ⟨⟨i + 1, ⟨own, _, found, false, true, false⟩, by simp, by omega, rfl, rfl, rfl, rfl, ⟨unhide HS, unhide H8⟩⟩, ?_⟩
              show lvs.length - ((i : Int) + 1).toNat < lvs.length - (i : Int).toNat
              omega
          · cases toStar
            · go_wp2_with (first
                | (go_at_call 28; refine (unhide HR0).mono ?_; rintro e w7 ⟨rfl, hb7⟩; have H7 := hide ((unhide HI).2.stay hb7))
                | (go_at_call 31; refine (unhide HA1 _ (unhide H7)).mono ?_; rintro e w8 ⟨rfl, h8⟩; have H8 := hide h8; clear h8))
              refine ⟨⟨i + 1, ⟨_, star, found, true, false, false⟩, by simp, by omega, rfl, rfl, rfl, rfl, ⟨unhide HS, unhide H8⟩⟩, ?_⟩
              show lvs.length - ((i : Int) + 1).toNat < lvs.length - (i : Int).toNat
              omega
            · go_wp2_with (first
                | (go_at_call 28; refine (unhide HR0).mono ?_; rintro e w7 ⟨rfl, hb7⟩; have H7 := hide ((unhide HI).2.stay hb7))
                | (go_at_call 31; first
                    | (refine (unhide HA2 _ _ (unhide H8)).mono ?_; rintro e w9 ⟨rfl, h9⟩; have H9 := hide h9; clear h9)
                    | (refine (unhide HA1 _ (unhide H7)).mono ?_; rintro e w8 ⟨rfl, h8⟩; have H8 := hide h8; clear h8)))
              refine ⟨⟨i + 1, ⟨_, _, found, true, true, false⟩, by simp, by omega, rfl, rfl, rfl, rfl, ⟨unhide HS, unhide H9⟩⟩, ?_⟩
              show lvs.length - ((i : Int) + 1).toNat < lvs.length - (i : Int).toNat
              omega
        · have HS := hide (hst.trans (fS_key tok ⟨#[100, 105, 115, 97, 108, 108, 111, 119]⟩ V own star found toOwn toStar agents (.inr (.inl rfl))))
          have HA1 := hide (fun (W : World) (h : PInv w A lvs own star W) => own_add ⟨#[100, 105, 115, 97, 108, 108, 111, 119]⟩ V (.inr (.inl rfl)) h (by omega) hVsz (unhide HTabs).1 (unhide HTabs).2.1)
          have HA2 := hide (fun (ow : List (Bool × ByteArray) × Int) (W : World) (h : PInv w A lvs ow star W) => star_add ⟨#[100, 105, 115, 97, 108, 108, 111, 119]⟩ V (.inr (.inl rfl)) h (by omega) hVsz (unhide HTabs).1 (unhide HTabs).2.1)
          clear hst hlens
          cases toOwn
          · cases toStar
            · go_wp2_with (go_at_call 28; refine (unhide HR0).mono ?_; rintro e w7 ⟨rfl, hb7⟩)
              refine ⟨⟨i + 1, ⟨own, star, found, false, false, false⟩, by simp, by omega, rfl, rfl, rfl, rfl, ⟨unhide HS, (unhide HI).2.stay hb7⟩⟩, ?_⟩
              show lvs.length - ((i : Int) + 1).toNat < lvs.length - (i : Int).toNat
              omega
            · go_wp2_with (first
                | (go_at_call 28; refine (unhide HR0).mono ?_; rintro e w7 ⟨rfl, hb7⟩; have H7 := hide ((unhide HI).2.stay hb7))
                | (go_at_call 31; refine (unhide HA2 _ _ (unhide H7)).mono ?_; rintro e w8 ⟨rfl, h8⟩; have H8 := hide h8; clear h8))
              refine ⟨⟨i + 1, ⟨own, _, found, false, true, false⟩, by simp, by omega, rfl, rfl, rfl, rfl, ⟨unhide HS, unhide H8⟩⟩, ?_⟩
              show lvs.length - ((i : Int) + 1).toNat < lvs.length - (i : Int).toNat
              omega
          · cases toStar
            · go_wp2_with (first
                | (go_at_call 28; refine (unhide HR0).mono ?_; rintro e w7 ⟨rfl, hb7⟩; have H7 := hide ((unhide HI).2.stay hb7))
                | (go_at_call 31; refine (unhide HA1 _ (unhide H7)).mono ?_; rintro e w8 ⟨rfl, h8⟩; have H8 := hide h8; clear h8))
              refine ⟨⟨i + 1, ⟨_, star, found, true, false, false⟩, by simp, by omega, rfl, rfl, rfl, rfl, ⟨unhide HS, unhide H8⟩⟩, ?_⟩
              show lvs.length - ((i : Int) + 1).toNat < lvs.length - (i : Int).toNat
              omega
            · go_wp2_with (first
                | (go_at_call 28; refine (unhide HR0).mono ?_; rintro e w7 ⟨rfl, hb7⟩; have H7 := hide ((unhide HI).2.stay hb7))
                | (go_at_call 31; first
                    | (refine (unhide HA2 _ _ (unhide H8)).mono ?_; rintro e w9 ⟨rfl, h9⟩; have H9 := hide h9; clear h9)
                    | (refine (unhide HA1 _ (unhide H7)).mono ?_; rintro e w8 ⟨rfl, h8⟩; have H8 := hide h8; clear h8)))
              refine ⟨⟨i + 1, ⟨_, _, found, true, true, false⟩, by simp, by omega, rfl, rfl, rfl, rfl, ⟨unhide HS, unhide H9⟩⟩, ?_⟩
              show lvs.length - ((i : Int) + 1).toNat < lvs.length - (i : Int).toNat
              omega
        · have HS := hide (hst.trans (fS_key tok ⟨#[99, 114, 97, 119, 108, 45, 100, 101, 108, 97, 121]⟩ V own star found toOwn toStar agents (.inr (.inr rfl))))
          have HA1 := hide (fun (W : World) (h : PInv w A lvs own star W) => own_add ⟨#[99, 114, 97, 119, 108, 45, 100, 101, 108, 97, 121]⟩ V (.inr (.inr rfl)) h (by omega) hVsz (unhide HTabs).1 (unhide HTabs).2.1)
          have HA2 := hide (fun (ow : List (Bool × ByteArray) × Int) (W : World) (h : PInv w A lvs ow star W) => star_add ⟨#[99, 114, 97, 119, 108, 45, 100, 101, 108, 97, 121]⟩ V (.inr (.inr rfl)) h (by omega) hVsz (unhide HTabs).1 (unhide HTabs).2.1)
          clear hst hlens
          cases toOwn
          · cases toStar
            · go_wp2_with (go_at_call 28; refine (unhide HR0).mono ?_; rintro e w7 ⟨rfl, hb7⟩)
              refine ⟨⟨i + 1, ⟨own, star, found, false, false, false⟩, by simp, by omega, rfl, rfl, rfl, rfl, ⟨unhide HS, (unhide HI).2.stay hb7⟩⟩, ?_⟩
              show lvs.length - ((i : Int) + 1).toNat < lvs.length - (i : Int).toNat
              omega
            · go_wp2_with (first
                | (go_at_call 28; refine (unhide HR0).mono ?_; rintro e w7 ⟨rfl, hb7⟩; have H7 := hide ((unhide HI).2.stay hb7))
                | (go_at_call 31; refine (unhide HA2 _ _ (unhide H7)).mono ?_; rintro e w8 ⟨rfl, h8⟩; have H8 := hide h8; clear h8))
              refine ⟨⟨i + 1, ⟨own, _, found, false, true, false⟩, by simp, by omega, rfl, rfl, rfl, rfl, ⟨unhide HS, unhide H8⟩⟩, ?_⟩
              show lvs.length - ((i : Int) + 1).toNat < lvs.length - (i : Int).toNat
              omega
          · cases toStar
            · go_wp2_with (first
                | (go_at_call 28; refine (unhide HR0).mono ?_; rintro e w7 ⟨rfl, hb7⟩; have H7 := hide ((unhide HI).2.stay hb7))
                | (go_at_call 31; refine (unhide HA1 _ (unhide H7)).mono ?_; rintro e w8 ⟨rfl, h8⟩; have H8 := hide h8; clear h8))
              refine ⟨⟨i + 1, ⟨_, star, found, true, false, false⟩, by simp, by omega, rfl, rfl, rfl, rfl, ⟨unhide HS, unhide H8⟩⟩, ?_⟩
              show lvs.length - ((i : Int) + 1).toNat < lvs.length - (i : Int).toNat
              omega
            · go_wp2_with (first
                | (go_at_call 28; refine (unhide HR0).mono ?_; rintro e w7 ⟨rfl, hb7⟩; have H7 := hide ((unhide HI).2.stay hb7))
                | (go_at_call 31; first
                    | (refine (unhide HA2 _ _ (unhide H8)).mono ?_; rintro e w9 ⟨rfl, h9⟩; have H9 := hide h9; clear h9)
                    | (refine (unhide HA1 _ (unhide H7)).mono ?_; rintro e w8 ⟨rfl, h8⟩; have H8 := hide h8; clear h8)))
              refine ⟨⟨i + 1, ⟨_, _, found, true, true, false⟩, by simp, by omega, rfl, rfl, rfl, rfl, ⟨unhide HS, unhide H9⟩⟩, ?_⟩
              show lvs.length - ((i : Int) + 1).toNat < lvs.length - (i : Int).toNat
              omega
        · have q0 := ne_list K _ n0
          have q1 := ne_list K _ n1
          have q2 := ne_list K _ n2
          have q3 := ne_list K _ n3
          have HS := hide (hst.trans (fS_other tok K V ⟨own, star, found, toOwn, toStar, agents⟩ n0 n1 n2 n3))
          clear hst hlens n0 n1 n2 n3
          go_wp2_with (go_at_call 28; refine (unhide HR0).mono ?_; rintro e w7 ⟨rfl, hb7⟩)
          refine ⟨⟨i + 1, ⟨own, star, found, toOwn, toStar, agents⟩, by simp, by omega, rfl, rfl, rfl, rfl, ⟨unhide HS, (unhide HI).2.stay hb7⟩⟩, ?_⟩
          show lvs.length - ((i : Int) + 1).toNat < lvs.length - (i : Int).toNat
          omega
    · have hiz : ¬ ((i : Int) < (lvs.length : Int)) := by omega
      have hil : i = ls.length := by omega
      have hres : parseF tok ls = resOf ⟨own, star, found, toOwn, toStar, agents⟩ := by
        unfold parseF
        rw [← stAt_all, ← hil, (unhide HI).1]
      obtain ⟨row1, row2, g1, g2, _, _, _⟩ := (unhide HI).2.grps
      obtain ⟨xs1, o1, x1⟩ := g1.own
      obtain ⟨xs2, o2, x2⟩ := g2.own
      obtain ⟨p1, k1, rfl⟩ := row_form o1
      obtain ⟨p2, k2, rfl⟩ := row_form o2
      have a0 := g1.c0
      have a1 := g1.c1
      have b0 := g2.c0
      have b1 := g2.c1
      have r0 := (unhide HI).2.r0
      have r1 := (unhide HI).2.r1
      have rf0 := (unhide HI).2.rf0
      have rf1 := (unhide HI).2.rf1
      have hbel := hide (unhide HI).2.below
      have R1 := hide (⟨xs1, o1, x1⟩ : RowIs (w.heap.size + 3) _ own.1 wr)
      have R2 := hide (⟨xs2, o2, x2⟩ : RowIs (w.heap.size + 3) _ star.1 wr)
      clear HI o1 o2 x1 x2 g1 g2 HRF HLV HVS HTabs
      cases found
      · have HRS : Hid (parseF tok ls = star) := hres
        clear hres
        go_wp2
        obtain ⟨c0, c1, hR, hbE⟩ := ret_set (d := star.2) r0 r1 (unhide hbel) (unhide R2)
        generalize ((wr.setCell ⟨w.heap.size, 0, none⟩ (.slice p2 star.1.length k2)).setCell ⟨w.heap.size, 1, none⟩ (.int .i64 star.2)) = wE at c0 c1 hR hbE ⊢
        refine bodyPost_ret (v := .agg #[.slice p2 star.1.length k2, .int .i64 star.2]) (by simp [results, Tryz.results18, go_sem, c0, c1]) rfl ?_
        rw [unhide HRS]
        exact ⟨p2, k2, rfl, hR, hbE⟩
      · have HRS : Hid (parseF tok ls = own) := hres
        clear hres
        go_wp2
        obtain ⟨c0, c1, hR, hbE⟩ := ret_set (d := own.2) r0 r1 (unhide hbel) (unhide R1)
        generalize ((wr.setCell ⟨w.heap.size, 0, none⟩ (.slice p1 own.1.length k1)).setCell ⟨w.heap.size, 1, none⟩ (.int .i64 own.2)) = wE at c0 c1 hR hbE ⊢
        refine bodyPost_ret (v := .agg #[.slice p1 own.1.length k1, .int .i64 own.2]) (by simp [results, Tryz.results18, go_sem, c0, c1]) rfl ?_
        rw [unhide HRS]
        exact ⟨p1, k1, rfl, hR, hbE⟩
end Go.Proofs.Qxb6615497aGreatDoor
