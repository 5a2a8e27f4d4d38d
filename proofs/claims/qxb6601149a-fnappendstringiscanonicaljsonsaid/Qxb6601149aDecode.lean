import Derived.Test.Qxb6601149aAppend
namespace Go.Proofs.Qxb6601149a
open Go.RowKit
set_option linter.unusedVariables false
set_option linter.unusedSimpArgs false

theorem ret_int {k : IntKind} {a b : Int} (h : a = b) : Ending.returned (.int k a) = .returned (.int k b) := by rw [h]

set_option maxHeartbeats 400000 in
theorem lower_any (d : Int) (h0 : 0 ≤ d) (h1 : d < 16) (x : Int) (HX : Hid (x = hexd d)) (w : World) :
    Calls Try.prog 25 #[.int .u8 x] w fun e w' => e = .returned (.int .i64 d) ∧ w = w' := by
  by_cases h : d < 10
  · have hx1 : 48 ≤ x := by have := HX.out; unfold hexd at this; rw [if_pos h] at this; omega
    have hx2 : x ≤ 57 := by have := HX.out; unfold hexd at this; rw [if_pos h] at this; omega
    have HE : Hid (x = 48 + d) := by have := HX.out; unfold hexd at this; rw [if_pos h] at this; exact hid this
    go_enter Try.func25, Try.ntmps25
    go_wp2
    go_ret
    exact ⟨ret_int (by have := HE.out; omega), rfl⟩
  · have hx1 : 97 ≤ x := by have := HX.out; unfold hexd at this; rw [if_neg h] at this; omega
    have hx2 : x ≤ 102 := by have := HX.out; unfold hexd at this; rw [if_neg h] at this; omega
    have HE : Hid (x = 87 + d) := by have := HX.out; unfold hexd at this; rw [if_neg h] at this; exact hid this
    go_enter Try.func25, Try.ntmps25
    go_wp2
    go_ret
    exact ⟨ret_int (by have := HE.out; omega), rfl⟩

/-- the bytes at a place of the text -/
theorem ints_at {w : World} {g o : Nat} {a b c : List Int} (h : Ints .u8 w g o (a ++ (b ++ c))) (k : Nat) (hk : k < b.length) : w.cell? ⟨g, o + (a.length + k), none⟩ = some (.int .u8 (b[k]?.getD 0)) := by
  have := h (a.length + k) (by simp; omega)
  rw [this, List.getElem?_append_right (by omega), Nat.add_sub_cancel_left, List.getElem?_append_left hk]

theorem body_split (bs : List Int) (j : Nat) (h : j < bs.length) : body bs = body (bs.take j) ++ (enc1 (bs[j]?.getD 0) ++ body (bs.drop (j + 1))) := by
  conv => lhs; rw [← List.take_append_drop j bs, drop_cons bs j h]
  rw [body_append, body_cons]

theorem dec_next (bs : List Int) (j : Nat) (c : Int) (h : j < bs.length) (hc : bs[j]?.getD 0 = c) : bv (bs.take j) ++ [.int .u8 c] = bv (bs.take (j + 1)) := by
  rw [List.take_succ_eq_append_getElem h]
  rw [List.getElem?_eq_getElem h] at hc
  simp at hc
  simp [bv, hc]

set_option maxHeartbeats 2000000 in
set_option maxRecDepth 100000 in
theorem decode_any (g off cap L m : Nat) (bs : List Int) (w : World) (HL : Hid ((body bs).length = L)) (HM : Hid (bs.length = m)) (hL : L ≤ 1048576) (hcap : L + 2 ≤ cap) (hcap' : cap ≤ 9223372036854775807)
    (HI : Hid (Ints .u8 w g off (enc bs))) (HW : Hid (∀ c ∈ bs, 0 ≤ c ∧ c ≤ 255)) :
    Calls Try.prog 13 #[.slice (some ⟨g, off, none⟩) (L + 2) cap] w fun e w' => ∃ v, e = .returned (.tuple #[v, .bool true]) ∧ w'.ownsRow w.heap.size 5 1 v m (bv bs) ∧ Below w.heap.size w w' := by
  obtain ⟨i0, hi0, hzz⟩ := Option.map_eq_some_iff.1 Try.info5
  simp only [Prod.mk.injEq] at hzz
  obtain ⟨hz0, hs0, hb0⟩ := hzz
  have hmk : ∀ w, (Instr.makeSlice 22 (.int .i64 0) (.int .i64 (L : Int))).run Try.prog w = .ok (.slice (some ⟨w.heap.size, 0, none⟩) 0 L) (w.alloc (.cells (madeCells #[.int .u8 0] L) 5)) := by
    intro w
    have h := run_make (P := Try.prog) w 22 5 i0 _ Try.underlying22 hi0 hz0 .i64 .i64 0 (L : Int) (by omega) (by omega) (by rw [hb0]; omega) (by omega)
    rw [h, hs0]
    simp [Value.cells]
  have c0 : w.cell? ⟨g, off, none⟩ = some (.int .u8 34) := by
    have := HI.out 0 (by rw [enc_length]; omega)
    simpa [enc] using this
  have c1 : w.cell? ⟨g, off + (L + 1), none⟩ = some (.int .u8 34) := by
    have := HI.out (L + 1) (by rw [enc_length, HL.out]; omega)
    rw [this]
    unfold enc
    rw [List.getElem?_cons_succ, List.getElem?_append_right (by rw [HL.out]; omega), HL.out]
    simp
  have hLi : (L : Int) + 1 < (L : Int) + 2 := by omega
  have hL0 : (0 : Int) < (L : Int) + 2 := by omega
  have hlt2 : ¬ ((L : Int) + 2 < 2) := by omega
  go_enter Try.func13, Try.ntmps13
  go_wp2
  -- LOOP
  clear hmk c0 c1 hLi hL0 hlt2
  have HI2 : Hid (Ints .u8 w g (off + 1) (body bs ++ [34])) := by
    intro i hi
    have := HI.out (i + 1) (by unfold enc; simpa using hi)
    rw [show off + 1 + i = off + (i + 1) by omega, this]
    unfold enc
    rw [List.getElem?_cons_succ]
  clear HI
  go_loopg [5, 6] m (fun gg vo vi wr => ∃ j p : Nat, j ≤ m ∧ p ≤ L ∧ gg = m - j ∧ Hid (p = (body (bs.take j)).length) ∧ vi = .int .i64 p ∧ Hid (wr.ownsRow w.heap.size 5 1 vo j (bv (bs.take j))) ∧ Hid (Below w.heap.size w wr))
  case atStart =>
    refine ⟨0, 0, Nat.zero_le _, Nat.zero_le _, rfl, by simp [body, Hid], rfl, ?_, (Below.refl _ _).alloc (Nat.le_refl _) _⟩
    have := World.ownsRow_made (base := w.heap.size) (e := 5) (size := 1) w (madeCells #[.int .u8 0] L) L (Nat.le_refl _) (by unfold maxLen; omega) (by rw [size_madeCells]; omega)
    exact hid (by simpa [bv] using this)
  case round =>
    obtain ⟨j, p, hj, hpL, rfl, HP, rfl, HO, HB⟩ := hrel
    have hjm : m ≤ 1048576 := by have := (body_length bs).1; rw [HM.out, HL.out] at this; omega
    by_cases hlt : j < m
    · have hsp := body_split bs j (by rw [HM.out]; exact hlt)
      have hwf := HW.out (bs[j]?.getD 0) (by rw [List.getElem?_eq_getElem (by rw [HM.out]; exact hlt)]; simp)
      have CK : Hid (∀ k, k < (enc1 (bs[j]?.getD 0)).length → wr.cell? ⟨g, off + 1 + (p + k), none⟩ = some (.int .u8 ((enc1 (bs[j]?.getD 0))[k]?.getD 0))) := by
        intro k hk
        have h1 := HI2.out
        rw [hsp, List.append_assoc, List.append_assoc] at h1
        have h2 := ints_at h1 k hk
        rw [← HP.out] at h2
        rw [HB.out.cell (World.block_lt_of_cell? _ _ h2)]
        exact h2
      have HPN : Hid (∀ k, (enc1 (bs[j]?.getD 0)).length = k → Hid (p + k = (body (bs.take (j + 1))).length)) := by
        intro k hk
        have e : bs.take (j + 1) = bs.take j ++ [bs[j]?.getD 0] := by
          rw [List.take_succ_eq_append_getElem (by rw [HM.out]; exact hlt), List.getElem?_eq_getElem (by rw [HM.out]; exact hlt)]; rfl
        rw [e, body_append, List.length_append, HP.out, ← hk]
        exact hid (by simp [body])
      have HPL : Hid (∀ k, (enc1 (bs[j]?.getD 0)).length = k → p + k ≤ L) := by
        intro k hk
        have := congrArg List.length hsp
        rw [List.length_append, List.length_append, HL.out, ← HP.out, hk] at this
        omega
      generalize hc : bs[j]?.getD 0 = c at *
      have HC := hid hc
      clear hc hsp
      obtain ⟨hc0, hc1⟩ := hwf
      by_cases h34 : c = 34
      · subst h34
        have c0 := CK.out 0 (by decide)
        have c1 := CK.out 1 (by decide)
        simp only [enc1, Nat.add_zero] at c0 c1
        simp at c0 c1
        have hp2 := HPL.out 2 rfl
        clear CK
        go_wp2_with (at_builtin; refine wpList_append_own _ rfl _ _ 22 rfl w.heap.size 5 i0 (.int .u8 0) 1 1 Try.underlying22 hi0 hz0 hs0 hb0 rfl (by decide) u5 j (bv (bs.take j)) rfl (HO.out.alloc _) ⟨wr.heap.size, 0, none⟩ 1 1 [.int .u8 34] rfl rfl ?c2 ?c3 ?c4 ?c5 ?c6 ?_)
        case c2 => exact cell_one_new _ _ _
        case c3 => intro u hu; simp at hu; subst hu; rfl
        case c4 => unfold maxLen; omega
        case c5 => omega
        case c6 => have := HB.out.size; simp; omega
        intro v2 w2 hown hgrow _
        have hb2 : Below w.heap.size w w2 := (HB.out.alloc HB.out.size _).grown hgrow (by have := HB.out.size; simp; omega) (fun k hk => (HO.out.lt k hk).1)
        have HO2 : Hid (w2.ownsRow w.heap.size 5 1 v2 (j + 1) (bv (bs.take (j + 1)))) := by
          have := hown
          rw [dec_next bs j _ (by rw [HM.out]; exact hlt) HC.out] at this
          exact hid this
        have HB2 := hid hb2
        clear hown hgrow hb2 HO HB
        go_wp2_with fail
        go_roundg (m - (j + 1))
        case measure => omega
        case rel => exact ⟨j + 1, p + 2, by omega, by omega, rfl, HPN.out 2 rfl, by go_num, HO2, HB2⟩
      · by_cases h92 : c = 92
        · subst h92
          have c0 := CK.out 0 (by decide)
          have c1 := CK.out 1 (by decide)
          simp only [enc1, Nat.add_zero] at c0 c1
          simp at c0 c1
          have hp2 := HPL.out 2 rfl
          clear CK
          go_wp2_with (at_builtin; refine wpList_append_own _ rfl _ _ 22 rfl w.heap.size 5 i0 (.int .u8 0) 1 1 Try.underlying22 hi0 hz0 hs0 hb0 rfl (by decide) u5 j (bv (bs.take j)) rfl (HO.out.alloc _) ⟨wr.heap.size, 0, none⟩ 1 1 [.int .u8 92] rfl rfl ?c2 ?c3 ?c4 ?c5 ?c6 ?_)
          case c2 => exact cell_one_new _ _ _
          case c3 => intro u hu; simp at hu; subst hu; rfl
          case c4 => unfold maxLen; omega
          case c5 => omega
          case c6 => have := HB.out.size; simp; omega
          intro v2 w2 hown hgrow _
          have hb2 : Below w.heap.size w w2 := (HB.out.alloc HB.out.size _).grown hgrow (by have := HB.out.size; simp; omega) (fun k hk => (HO.out.lt k hk).1)
          have HO2 : Hid (w2.ownsRow w.heap.size 5 1 v2 (j + 1) (bv (bs.take (j + 1)))) := by
            have := hown
            rw [dec_next bs j _ (by rw [HM.out]; exact hlt) HC.out] at this
            exact hid this
          have HB2 := hid hb2
          clear hown hgrow hb2 HO HB
          go_wp2_with fail
          go_roundg (m - (j + 1))
          case measure => omega
          case rel => exact ⟨j + 1, p + 2, by omega, by omega, rfl, HPN.out 2 rfl, by go_num, HO2, HB2⟩
        · by_cases h10 : c = 10
          · subst h10
            have c0 := CK.out 0 (by decide)
            have c1 := CK.out 1 (by decide)
            simp only [enc1, Nat.add_zero] at c0 c1
            simp at c0 c1
            have hp2 := HPL.out 2 rfl
            clear CK
            go_wp2_with (at_builtin; refine wpList_append_own _ rfl _ _ 22 rfl w.heap.size 5 i0 (.int .u8 0) 1 1 Try.underlying22 hi0 hz0 hs0 hb0 rfl (by decide) u5 j (bv (bs.take j)) rfl (HO.out.alloc _) ⟨wr.heap.size, 0, none⟩ 1 1 [.int .u8 10] rfl rfl ?c2 ?c3 ?c4 ?c5 ?c6 ?_)
            case c2 => exact cell_one_new _ _ _
            case c3 => intro u hu; simp at hu; subst hu; rfl
            case c4 => unfold maxLen; omega
            case c5 => omega
            case c6 => have := HB.out.size; simp; omega
            intro v2 w2 hown hgrow _
            have hb2 : Below w.heap.size w w2 := (HB.out.alloc HB.out.size _).grown hgrow (by have := HB.out.size; simp; omega) (fun k hk => (HO.out.lt k hk).1)
            have HO2 : Hid (w2.ownsRow w.heap.size 5 1 v2 (j + 1) (bv (bs.take (j + 1)))) := by
              have := hown
              rw [dec_next bs j _ (by rw [HM.out]; exact hlt) HC.out] at this
              exact hid this
            have HB2 := hid hb2
            clear hown hgrow hb2 HO HB
            go_wp2_with fail
            go_roundg (m - (j + 1))
            case measure => omega
            case rel => exact ⟨j + 1, p + 2, by omega, by omega, rfl, HPN.out 2 rfl, by go_num, HO2, HB2⟩
          · by_cases h13 : c = 13
            · subst h13
              have c0 := CK.out 0 (by decide)
              have c1 := CK.out 1 (by decide)
              simp only [enc1, Nat.add_zero] at c0 c1
              simp at c0 c1
              have hp2 := HPL.out 2 rfl
              clear CK
              go_wp2_with (at_builtin; refine wpList_append_own _ rfl _ _ 22 rfl w.heap.size 5 i0 (.int .u8 0) 1 1 Try.underlying22 hi0 hz0 hs0 hb0 rfl (by decide) u5 j (bv (bs.take j)) rfl (HO.out.alloc _) ⟨wr.heap.size, 0, none⟩ 1 1 [.int .u8 13] rfl rfl ?c2 ?c3 ?c4 ?c5 ?c6 ?_)
              case c2 => exact cell_one_new _ _ _
              case c3 => intro u hu; simp at hu; subst hu; rfl
              case c4 => unfold maxLen; omega
              case c5 => omega
              case c6 => have := HB.out.size; simp; omega
              intro v2 w2 hown hgrow _
              have hb2 : Below w.heap.size w w2 := (HB.out.alloc HB.out.size _).grown hgrow (by have := HB.out.size; simp; omega) (fun k hk => (HO.out.lt k hk).1)
              have HO2 : Hid (w2.ownsRow w.heap.size 5 1 v2 (j + 1) (bv (bs.take (j + 1)))) := by
                have := hown
                rw [dec_next bs j _ (by rw [HM.out]; exact hlt) HC.out] at this
                exact hid this
              have HB2 := hid hb2
              clear hown hgrow hb2 HO HB
              go_wp2_with fail
              go_roundg (m - (j + 1))
              case measure => omega
              case rel => exact ⟨j + 1, p + 2, by omega, by omega, rfl, HPN.out 2 rfl, by go_num, HO2, HB2⟩
            · by_cases h9 : c = 9
              · subst h9
                have c0 := CK.out 0 (by decide)
                have c1 := CK.out 1 (by decide)
                simp only [enc1, Nat.add_zero] at c0 c1
                simp at c0 c1
                have hp2 := HPL.out 2 rfl
                clear CK
                go_wp2_with (at_builtin; refine wpList_append_own _ rfl _ _ 22 rfl w.heap.size 5 i0 (.int .u8 0) 1 1 Try.underlying22 hi0 hz0 hs0 hb0 rfl (by decide) u5 j (bv (bs.take j)) rfl (HO.out.alloc _) ⟨wr.heap.size, 0, none⟩ 1 1 [.int .u8 9] rfl rfl ?c2 ?c3 ?c4 ?c5 ?c6 ?_)
                case c2 => exact cell_one_new _ _ _
                case c3 => intro u hu; simp at hu; subst hu; rfl
                case c4 => unfold maxLen; omega
                case c5 => omega
                case c6 => have := HB.out.size; simp; omega
                intro v2 w2 hown hgrow _
                have hb2 : Below w.heap.size w w2 := (HB.out.alloc HB.out.size _).grown hgrow (by have := HB.out.size; simp; omega) (fun k hk => (HO.out.lt k hk).1)
                have HO2 : Hid (w2.ownsRow w.heap.size 5 1 v2 (j + 1) (bv (bs.take (j + 1)))) := by
                  have := hown
                  rw [dec_next bs j _ (by rw [HM.out]; exact hlt) HC.out] at this
                  exact hid this
                have HB2 := hid hb2
                clear hown hgrow hb2 HO HB
                go_wp2_with fail
                go_roundg (m - (j + 1))
                case measure => omega
                case rel => exact ⟨j + 1, p + 2, by omega, by omega, rfl, HPN.out 2 rfl, by go_num, HO2, HB2⟩
              · by_cases h32 : c < 32
                · have HEN : Hid (enc1 c = [92, 117, 48, 48, hexd (c / 16), hexd (c % 16)]) := by
                    unfold enc1
                    rw [if_neg (by omega), if_neg (by omega), if_neg (by omega), if_neg (by omega), if_pos (by omega)]
                    exact hid rfl
                  have c0 := CK.out 0 (by rw [HEN.out]; simp)
                  have c1 := CK.out 1 (by rw [HEN.out]; simp)
                  have c2 := CK.out 2 (by rw [HEN.out]; simp)
                  have c3 := CK.out 3 (by rw [HEN.out]; simp)
                  have c4 := CK.out 4 (by rw [HEN.out]; simp)
                  have c5 := CK.out 5 (by rw [HEN.out]; simp)
                  rw [HEN.out] at c0 c1 c2 c3 c4 c5
                  simp only [Nat.add_zero] at c0
                  simp at c0 c1 c2 c3 c4 c5
                  have hp2 := HPL.out 6 (by rw [HEN.out]; rfl)
                  have HPN6 := hid (HPN.out 6 (by rw [HEN.out]; rfl))
                  obtain ⟨x1, hx1⟩ : ∃ x, x = hexd (c / 16) := ⟨_, rfl⟩
                  obtain ⟨x2, hx2⟩ : ∃ x, x = hexd (c % 16) := ⟨_, rfl⟩
                  rw [← hx1] at c4
                  rw [← hx2] at c5
                  have HLW1 := hid (fun W => lower_any (c / 16) (by omega) (by omega) x1 hx1 W)
                  have HLW2 := hid (fun W => lower_any (c % 16) (by omega) (by omega) x2 hx2 W)
                  have HV : Hid (c / 16 * 16 + c % 16 = c) := by show _ = _; omega
                  clear CK hx1 hx2 HEN HPL
                  obtain ⟨d1, hd1⟩ : ∃ d, d = c / 16 := ⟨_, rfl⟩
                  obtain ⟨d2, hd2⟩ : ∃ d, d = c % 16 := ⟨_, rfl⟩
                  rw [← hd1] at HLW1 HV
                  rw [← hd2] at HLW2 HV
                  have hd1a : 0 ≤ d1 := by omega
                  have hd1b : d1 < 2 := by omega
                  have hd2a : 0 ≤ d2 := by omega
                  have hd2b : d2 < 16 := by omega
                  clear hd1 hd2
                  have n10 : (d1 * 16 + d2 == 10) = false := by have := HV.out; simp; omega
                  have n13 : (d1 * 16 + d2 == 13) = false := by have := HV.out; simp; omega
                  have n9 : (d1 * 16 + d2 == 9) = false := by have := HV.out; simp; omega
                  have n32 : d1 * 16 + d2 < 32 := by omega
                  have H34 := hid h34
                  clear h34 h92 h10 h13 h9
                  go_wp2_with fail
                  refine (HLW1.out _).mono ?_
                  rintro e w' ⟨rfl, rfl⟩
                  go_wp2_with fail
                  refine (HLW2.out _).mono ?_
                  rintro e w' ⟨rfl, rfl⟩
                  go_wp2_with (at_builtin; refine wpList_append_own _ rfl _ _ 22 rfl w.heap.size 5 i0 (.int .u8 0) 1 1 Try.underlying22 hi0 hz0 hs0 hb0 rfl (by decide) u5 j (bv (bs.take j)) rfl (HO.out.alloc _) ⟨wr.heap.size, 0, none⟩ 1 1 [.int .u8 (d1 * 16 + d2)] rfl rfl ?c2 ?c3 ?c4 ?c5 ?c6 ?_)
                  case c2 => exact cell_one_new _ _ _
                  case c3 => intro u hu; simp at hu; subst hu; rfl
                  case c4 => unfold maxLen; omega
                  case c5 => omega
                  case c6 => have := HB.out.size; simp; omega
                  intro v2 w2 hown hgrow _
                  have hb2 : Below w.heap.size w w2 := (HB.out.alloc HB.out.size _).grown hgrow (by have := HB.out.size; simp; omega) (fun k hk => (HO.out.lt k hk).1)
                  rw [HV.out] at hown
                  have HO2 : Hid (w2.ownsRow w.heap.size 5 1 v2 (j + 1) (bv (bs.take (j + 1)))) := by
                    have := hown
                    rw [dec_next bs j _ (by rw [HM.out]; exact hlt) HC.out] at this
                    exact hid this
                  have HB2 := hid hb2
                  clear hown hgrow hb2 HO HB
                  go_wp2_with fail
                  go_roundg (m - (j + 1))
                  case measure => omega
                  case rel => exact ⟨j + 1, p + 6, by omega, by omega, rfl, HPN6.out, by go_num, HO2, HB2⟩
                · have HEN : Hid (enc1 c = [c]) := by
                    unfold enc1
                    rw [if_neg (by omega), if_neg (by omega), if_neg (by omega), if_neg (by omega), if_neg (by omega)]
                    exact hid rfl
                  have c0 := CK.out 0 (by rw [HEN.out]; simp)
                  rw [HEN.out] at c0
                  simp only [Nat.add_zero] at c0
                  simp at c0
                  have hp2 := HPL.out 1 (by rw [HEN.out]; rfl)
                  have HPN1 := hid (HPN.out 1 (by rw [HEN.out]; rfl))
                  have t34 : (c == 34) = false := by simpa using h34
                  have t92 : (c != 92) = true := by simpa using h92
                  clear CK h34 h92 h10 h13 h9 HEN HPL
                  go_wp2_with (at_builtin; refine wpList_append_own _ rfl _ _ 22 rfl w.heap.size 5 i0 (.int .u8 0) 1 1 Try.underlying22 hi0 hz0 hs0 hb0 rfl (by decide) u5 j (bv (bs.take j)) rfl (HO.out.alloc _) ⟨wr.heap.size, 0, none⟩ 1 1 [.int .u8 c] rfl rfl ?c2 ?c3 ?c4 ?c5 ?c6 ?_)
                  try (case c2 => exact cell_one_new _ _ _)
                  case c3 => first | rfl | (intro u hu; simp at hu; subst hu; rfl)
                  case c4 => first | omega | (unfold maxLen; omega)
                  case c5 => omega
                  case c6 => have := HB.out.size; first | omega | (simp; omega)
                  intro v2 w2 hown hgrow _
                  have hb2 : Below w.heap.size w w2 := (HB.out.alloc HB.out.size _).grown hgrow (by have := HB.out.size; simp; omega) (fun k hk => (HO.out.lt k hk).1)
                  have HO2 : Hid (w2.ownsRow w.heap.size 5 1 v2 (j + 1) (bv (bs.take (j + 1)))) := by
                    have := hown
                    rw [dec_next bs j _ (by rw [HM.out]; exact hlt) HC.out] at this
                    exact hid this
                  have HB2 := hid hb2
                  clear hown hgrow hb2 HO HB
                  go_wp2_with fail
                  go_roundg (m - (j + 1))
                  case measure => omega
                  case rel => exact ⟨j + 1, p + 1, by omega, by omega, rfl, HPN1.out, by go_num, HO2, HB2⟩
    · have e : j = m := by omega
      subst e
      have e2 : p = L := by have := HP.out; rw [List.take_of_length_le (by rw [HM.out]; omega), HL.out] at this; exact this
      subst e2
      have hO := HO.out
      rw [List.take_of_length_le (by rw [HM.out]; omega)] at hO
      have HOO := hid hO
      clear hO HO
      go_wp2_with fail
      go_ret2
      exact ⟨_, rfl, HOO, HB⟩

end Go.Proofs.Qxb6601149a
