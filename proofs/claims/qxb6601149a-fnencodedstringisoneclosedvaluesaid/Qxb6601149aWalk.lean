import Derived.Test.Qxb6601149aBase
import Derived.Test.Qxb6601149aPlain
import Derived.Deep.CutRange
namespace Go.Proofs.Qxb6601149a
open Go.RowKit
set_option linter.unusedVariables false
set_option linter.unusedSimpArgs false

theorem drop_cons (bs : List Int) (i : Nat) (h : i < bs.length) : bs.drop i = bs[i]?.getD 0 :: bs.drop (i + 1) := by
  rw [List.drop_eq_getElem_cons h]; simp [h]

theorem drop_past (bs : List Int) (i : Nat) (h : bs.length ≤ i) : bs.drop i = [] := List.drop_of_length_le h

theorem run_skip (stop : Bool) (j : Nat) (dep deep : Int) (bs : List Int) : run stop (j + 1) 2 dep deep (bs.drop (j + 1)) = run stop (j + 2) 1 dep deep (bs.drop (j + 2)) := by
  by_cases h : j + 1 < bs.length
  · rw [drop_cons _ _ h, run]; simp
  · rw [drop_past _ _ (by omega), drop_past _ _ (by omega)]; exact run_past _ _ _ _ _ _ _

set_option maxRecDepth 100000 in
set_option maxHeartbeats 2000000 in
theorem walk_true (b off n c : Nat) (bs : List Int) (w : World) (HL : Hid (bs.length = n)) (hn : n ≤ 4194304) (HB : Hid (Ints .u8 w b off bs)) (r : Int × Int) (HR : Hid (run true 0 0 0 0 bs = r)) :
    Calls Try.prog 26 #[.slice (some ⟨b, off, none⟩) n c, .bool true] w fun e w' => e = .returned (.tuple #[.int .i64 r.1, .int .i64 r.2]) ∧ w = w' := by
  go_enter Try.func26, Try.ntmps26
  go_wp2
  go_loopg [5, 6, 7] (n + 3) (fun g vd ve vi wr => ∃ (i : Nat) (dep deep : Int), g = n + 3 - i ∧ i ≤ n + 2 ∧ -i ≤ dep ∧ dep ≤ i ∧ 0 ≤ deep ∧ deep ≤ i ∧ vd = .int .i64 deep ∧ ve = .int .i64 dep ∧ vi = .int .i64 i ∧ Hid (run true i 0 dep deep (bs.drop i) = r) ∧ Hid (wr = w))
  case atStart => exact ⟨0, 0, 0, rfl, by omega, by omega, by omega, by omega, by omega, rfl, rfl, rfl, by simpa using HR, rfl⟩
  case round =>
    obtain ⟨i, dep, deep, rfl, hi, hd1, hd2, hd3, hd4, rfl, rfl, rfl, HI, HW⟩ := hrel
    have hw := HW.out
    subst hw
    clear HW
    by_cases hlt : i < n
    · have c1 := HB.out i (by rw [HL.out]; exact hlt)
      have HI' := hid HI.out
      rw [drop_cons _ _ (by rw [HL.out]; exact hlt)] at HI'
      generalize bs[i]?.getD 0 = ch at *
      clear HI
      by_cases hq : ch = 34
      · subst hq
        have HI2 : Hid (run true (i + 1) 1 dep deep (bs.drop (i + 1)) = r) := by
          have := HI'.out
          rw [run] at this
          exact hid (by simpa using this)
        clear HI'
        go_wp2
        clear c1
        go_loopg [7] (n + 2 - (i + 1)) (fun g vj wr' => ∃ j : Nat, g = n + 2 - j ∧ i + 1 ≤ j ∧ j ≤ n + 1 ∧ vj = .int .i64 j ∧ Hid (run true j 1 dep deep (bs.drop j) = r) ∧ Hid (wr' = wr))
        case atStart => exact ⟨i + 1, rfl, Nat.le_refl _, by omega, by go_num, HI2, rfl⟩
        case round =>
          clear HI2
          obtain ⟨j, rfl, hj1, hj2, rfl, HJ, HW⟩ := hrel
          have hw := HW.out
          subst hw
          clear HW
          by_cases hjn : j < n
          · have c1 := HB.out j (by rw [HL.out]; exact hjn)
            have HJ' := hid HJ.out
            rw [drop_cons _ _ (by rw [HL.out]; exact hjn)] at HJ'
            generalize bs[j]?.getD 0 = cj at *
            clear HJ
            by_cases hq : cj = 34
            · subst hq
              by_cases hz : dep = 0
              · have hz' : (dep == 0) = true := by simpa using hz
                have HZ := hid hz
                clear hz
                go_wp2
                go_ret2
                have := HJ'.out
                rw [run] at this
                simp [HZ.out] at this
                subst this
                exact ⟨rfl, rfl⟩
              · have hz' : (dep == 0) = false := by simpa using hz
                have HZ := hid hz
                clear hz
                go_wp2
                go_roundg (n + 3 - (j + 1))
                case measure => omega
                case rel =>
                  refine ⟨j + 1, dep, deep, rfl, by omega, by omega, by omega, by omega, by omega, rfl, rfl, by go_num, hid ?_, rfl⟩
                  have := HJ'.out
                  rw [run] at this
                  simpa [HZ.out] using this
            · have hq' : (cj != 34) = true := by simpa using hq
              by_cases hb : cj = 92
              · subst hb
                have HJ2 : Hid (run true (j + 2) 1 dep deep (bs.drop (j + 2)) = r) := by
                  have := HJ'.out
                  rw [run] at this
                  simp at this
                  exact hid ((run_skip true j dep deep bs).symm.trans this)
                go_wp2
                go_roundg (n + 2 - (j + 2))
                case measure => omega
                case rel => exact ⟨j + 2, rfl, by omega, by omega, by go_num, HJ2, rfl⟩
              · have hb' : (cj == 92) = false := by simpa using hb
                have HJ2 : Hid (run true (j + 1) 1 dep deep (bs.drop (j + 1)) = r) := by
                  have := HJ'.out
                  rw [run] at this
                  exact hid (by simpa [hq, hb] using this)
                clear hq hb
                go_wp2
                go_roundg (n + 2 - (j + 1))
                case measure => omega
                case rel => exact ⟨j + 1, rfl, by omega, by omega, by go_num, HJ2, rfl⟩
          · have HJ2 : Hid (run true (j + 1) 0 dep deep (bs.drop (j + 1)) = r) := by
              have := HJ.out
              rw [drop_past _ _ (by rw [HL.out]; omega)] at this
              rw [drop_past _ _ (by rw [HL.out]; omega)]
              exact hid ((run_past _ _ _ _ _ _ _).trans this)
            clear HJ
            have hjn' : ¬ (j : Int) < n := by omega
            go_wp2
            go_roundg (n + 3 - (j + 1))
            case measure => omega
            case rel => exact ⟨j + 1, dep, deep, rfl, by omega, by omega, by omega, by omega, by omega, rfl, rfl, by go_num, HJ2, rfl⟩
      · have hq' : (ch == 34) = false := by simpa using hq
        by_cases ho : ch = 123 ∨ ch = 91
        · rcases ho with rfl | rfl
          all_goals
            go_wp2
            all_goals
              go_roundg (n + 3 - (i + 1))
              case measure => omega
              case rel =>
                refine ⟨i + 1, dep + 1, max deep (dep + 1), rfl, by omega, by omega, by omega, by omega, by omega, ?_, rfl, by go_num, hid ?_, rfl⟩
                · congr 1; omega
                · have := HI'.out
                  rw [run] at this
                  simpa using this
        · by_cases hc : ch = 125 ∨ ch = 93
          · rcases hc with rfl | rfl
            all_goals
            by_cases hz : dep - 1 = 0
            · have hz' : (dep - 1 == 0) = true := by simpa using hz
              have HZ := hid hz
              clear hz
              go_wp2
              go_ret2
              have := HI'.out
              rw [run] at this
              simp [HZ.out] at this
              subst this
              exact ⟨rfl, rfl⟩
            · have hz' : (dep - 1 == 0) = false := by simpa using hz
              have HZ := hid hz
              clear hz
              go_wp2
              go_roundg (n + 3 - (i + 1))
              case measure => omega
              case rel =>
                refine ⟨i + 1, dep - 1, deep, rfl, by omega, by omega, by omega, by omega, by omega, rfl, rfl, by go_num, hid ?_, rfl⟩
                have := HI'.out
                rw [run] at this
                simpa [HZ.out] using this
          · have ho1 : (ch == 123) = false := by simp; omega
            have ho2 : (ch == 91) = false := by simp; omega
            have hc1 : (ch == 125) = false := by simp; omega
            have hc2 : (ch == 93) = false := by simp; omega
            have HQ := hid hq
            have HO := hid ho
            have HC := hid hc
            clear hc ho hq
            go_wp2
            go_roundg (n + 3 - (i + 1))
            case measure => omega
            case rel =>
              refine ⟨i + 1, dep, deep, rfl, by omega, by omega, by omega, by omega, by omega, rfl, rfl, by go_num, hid ?_, rfl⟩
              have := HI'.out
              rw [run] at this
              simpa [HQ.out, HO.out, HC.out] using this
    · go_wp2
      go_ret2
      have := HI.out
      rw [drop_past _ _ (by rw [HL.out]; omega), run_nil] at this
      subst this
      exact ⟨rfl, rfl⟩

set_option maxRecDepth 100000 in
set_option maxHeartbeats 2000000 in
theorem walk_false (b off n c : Nat) (bs : List Int) (w : World) (HL : Hid (bs.length = n)) (hn : n ≤ 4194304) (HB : Hid (Ints .u8 w b off bs)) (r : Int × Int) (HR : Hid (run false 0 0 0 0 bs = r)) :
    Calls Try.prog 26 #[.slice (some ⟨b, off, none⟩) n c, .bool false] w fun e w' => e = .returned (.tuple #[.int .i64 r.1, .int .i64 r.2]) ∧ w = w' := by
  go_enter Try.func26, Try.ntmps26
  go_wp2
  go_loopg [5, 6, 7] (n + 3) (fun g vd ve vi wr => ∃ (i : Nat) (dep deep : Int), g = n + 3 - i ∧ i ≤ n + 2 ∧ -i ≤ dep ∧ dep ≤ i ∧ 0 ≤ deep ∧ deep ≤ i ∧ vd = .int .i64 deep ∧ ve = .int .i64 dep ∧ vi = .int .i64 i ∧ Hid (run false i 0 dep deep (bs.drop i) = r) ∧ Hid (wr = w))
  case atStart => exact ⟨0, 0, 0, rfl, by omega, by omega, by omega, by omega, by omega, rfl, rfl, rfl, by simpa using HR, rfl⟩
  case round =>
    obtain ⟨i, dep, deep, rfl, hi, hd1, hd2, hd3, hd4, rfl, rfl, rfl, HI, HW⟩ := hrel
    have hw := HW.out
    subst hw
    clear HW
    by_cases hlt : i < n
    · have c1 := HB.out i (by rw [HL.out]; exact hlt)
      have HI' := hid HI.out
      rw [drop_cons _ _ (by rw [HL.out]; exact hlt)] at HI'
      generalize bs[i]?.getD 0 = ch at *
      clear HI
      by_cases hq : ch = 34
      · subst hq
        have HI2 : Hid (run false (i + 1) 1 dep deep (bs.drop (i + 1)) = r) := by
          have := HI'.out
          rw [run] at this
          exact hid (by simpa using this)
        clear HI'
        go_wp2
        clear c1
        go_loopg [7] (n + 2 - (i + 1)) (fun g vj wr' => ∃ j : Nat, g = n + 2 - j ∧ i + 1 ≤ j ∧ j ≤ n + 1 ∧ vj = .int .i64 j ∧ Hid (run false j 1 dep deep (bs.drop j) = r) ∧ Hid (wr' = wr))
        case atStart => exact ⟨i + 1, rfl, Nat.le_refl _, by omega, by go_num, HI2, rfl⟩
        case round =>
          clear HI2
          obtain ⟨j, rfl, hj1, hj2, rfl, HJ, HW⟩ := hrel
          have hw := HW.out
          subst hw
          clear HW
          by_cases hjn : j < n
          · have c1 := HB.out j (by rw [HL.out]; exact hjn)
            have HJ' := hid HJ.out
            rw [drop_cons _ _ (by rw [HL.out]; exact hjn)] at HJ'
            generalize bs[j]?.getD 0 = cj at *
            clear HJ
            by_cases hq : cj = 34
            · subst hq
              go_wp2
              go_roundg (n + 3 - (j + 1))
              case measure => omega
              case rel =>
                refine ⟨j + 1, dep, deep, rfl, by omega, by omega, by omega, by omega, by omega, rfl, rfl, by go_num, hid ?_, rfl⟩
                have := HJ'.out
                rw [run] at this
                simpa using this
            · have hq' : (cj != 34) = true := by simpa using hq
              by_cases hb : cj = 92
              · subst hb
                have HJ2 : Hid (run false (j + 2) 1 dep deep (bs.drop (j + 2)) = r) := by
                  have := HJ'.out
                  rw [run] at this
                  simp at this
                  exact hid ((run_skip false j dep deep bs).symm.trans this)
                go_wp2
                go_roundg (n + 2 - (j + 2))
                case measure => omega
                case rel => exact ⟨j + 2, rfl, by omega, by omega, by go_num, HJ2, rfl⟩
              · have hb' : (cj == 92) = false := by simpa using hb
                have HJ2 : Hid (run false (j + 1) 1 dep deep (bs.drop (j + 1)) = r) := by
                  have := HJ'.out
                  rw [run] at this
                  exact hid (by simpa [hq, hb] using this)
                clear hq hb
                go_wp2
                go_roundg (n + 2 - (j + 1))
                case measure => omega
                case rel => exact ⟨j + 1, rfl, by omega, by omega, by go_num, HJ2, rfl⟩
          · have HJ2 : Hid (run false (j + 1) 0 dep deep (bs.drop (j + 1)) = r) := by
              have := HJ.out
              rw [drop_past _ _ (by rw [HL.out]; omega)] at this
              rw [drop_past _ _ (by rw [HL.out]; omega)]
              exact hid ((run_past _ _ _ _ _ _ _).trans this)
            clear HJ
            have hjn' : ¬ (j : Int) < n := by omega
            go_wp2
            go_roundg (n + 3 - (j + 1))
            case measure => omega
            case rel => exact ⟨j + 1, dep, deep, rfl, by omega, by omega, by omega, by omega, by omega, rfl, rfl, by go_num, HJ2, rfl⟩
      · have hq' : (ch == 34) = false := by simpa using hq
        by_cases ho : ch = 123 ∨ ch = 91
        · rcases ho with rfl | rfl
          all_goals
            go_wp2
            all_goals
              go_roundg (n + 3 - (i + 1))
              case measure => omega
              case rel =>
                refine ⟨i + 1, dep + 1, max deep (dep + 1), rfl, by omega, by omega, by omega, by omega, by omega, ?_, rfl, by go_num, hid ?_, rfl⟩
                · congr 1; omega
                · have := HI'.out
                  rw [run] at this
                  simpa using this
        · by_cases hc : ch = 125 ∨ ch = 93
          · rcases hc with rfl | rfl
            all_goals
            go_wp2
            go_roundg (n + 3 - (i + 1))
            case measure => omega
            case rel =>
              refine ⟨i + 1, dep - 1, deep, rfl, by omega, by omega, by omega, by omega, by omega, rfl, rfl, by go_num, hid ?_, rfl⟩
              have := HI'.out
              rw [run] at this
              simpa using this
          · have ho1 : (ch == 123) = false := by simp; omega
            have ho2 : (ch == 91) = false := by simp; omega
            have hc1 : (ch == 125) = false := by simp; omega
            have hc2 : (ch == 93) = false := by simp; omega
            have HQ := hid hq
            have HO := hid ho
            have HC := hid hc
            clear hc ho hq
            go_wp2
            go_roundg (n + 3 - (i + 1))
            case measure => omega
            case rel =>
              refine ⟨i + 1, dep, deep, rfl, by omega, by omega, by omega, by omega, by omega, rfl, rfl, by go_num, hid ?_, rfl⟩
              have := HI'.out
              rw [run] at this
              simpa [HQ.out, HO.out, HC.out] using this
    · go_wp2
      go_ret2
      have := HI.out
      rw [drop_past _ _ (by rw [HL.out]; omega), run_nil] at this
      subst this
      exact ⟨rfl, rfl⟩

end Go.Proofs.Qxb6601149a
