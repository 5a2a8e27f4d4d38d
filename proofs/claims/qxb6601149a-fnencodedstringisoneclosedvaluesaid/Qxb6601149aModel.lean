import Derived.Test.Qxb6601149aBytes
namespace Go.Proofs.Qxb6601149a
open Go.RowKit
set_option linter.unusedVariables false
set_option linter.unusedSimpArgs false

/-- the marks after i bytes: the first i of M, then zeros -/
def fil (M : List Int) (n i : Nat) : List Int := M.take i ++ List.replicate (n - i) 0

theorem fil_length (M : List Int) (n i : Nat) (hM : M.length = n) (hi : i ≤ n) : (fil M n i).length = n := by
  unfold fil; simp; omega

theorem fil_set (M : List Int) (n i : Nat) (m : Int) (hM : M.length = n) (hi : i < n) (hm : M[i]?.getD 0 = m) : (fil M n i).set i m = fil M n (i + 1) := by
  unfold fil
  have e1 : M.take (i + 1) = M.take i ++ [m] := by
    rw [List.take_succ_eq_append_getElem (by omega)]
    rw [List.getElem?_eq_getElem (by omega)] at hm
    simp at hm; rw [hm]
  have e2 : n - i = (n - (i + 1)) + 1 := by omega
  rw [e1, e2, List.replicate_succ, List.set_append_right _ _ (by simp; omega)]
  simp [show i - min i M.length = 0 by omega]

theorem fil_zero (M : List Int) (n i : Nat) (hM : M.length = n) (hi : i < n) (hm : M[i]?.getD 0 = 0) : fil M n i = fil M n (i + 1) := by
  rw [← fil_set M n i 0 hM hi hm]
  unfold fil
  have e2 : n - i = (n - (i + 1)) + 1 := by omega
  rw [e2, List.replicate_succ, List.set_append_right _ _ (by simp; omega)]
  simp [show i - min i M.length = 0 by omega]

theorem fil_all (M : List Int) (n : Nat) (hM : M.length = n) : fil M n n = M := by
  unfold fil; simp [← hM]

theorem head_of_drop {M R : List Int} {i : Nat} {m : Int} (h : M.drop i = m :: R) : M[i]?.getD 0 = m ∧ M.drop (i + 1) = R := by
  have h1 : i < M.length := by
    rcases Nat.lt_or_ge i M.length with h' | h'
    · exact h'
    · rw [List.drop_of_length_le h'] at h; cases h
  rw [List.drop_eq_getElem_cons h1] at h
  have := List.cons.inj h
  exact ⟨by rw [List.getElem?_eq_getElem h1]; simpa using this.1, this.2⟩

/-- one step of the first pass, the mark m written -/
theorem fil_step {M bs : List Int} {n i md' : Nat} {m : Int} {wr : World} {g : Nat} (hM : M.length = n) (hi : i < n) (hd : M.drop i = m :: marks md' (bs.drop (i + 1))) (hB : Blk wr g (bv (fil M n i)) 5) :
    Blk (wr.setCell ⟨g, i, none⟩ (.int .u8 m)) g (bv (fil M n (i + 1))) 5 ∧ M.drop (i + 1) = marks md' (bs.drop (i + 1)) := by
  obtain ⟨h1, h2⟩ := head_of_drop hd
  refine ⟨?_, h2⟩
  rw [← fil_set M n i m hM hi h1]
  exact hB.iset i m

/-- .. nothing written -/
theorem fil_skip {M bs : List Int} {n i md' : Nat} {wr : World} {g : Nat} (hM : M.length = n) (hi : i < n) (hd : M.drop i = 0 :: marks md' (bs.drop (i + 1))) (hB : Blk wr g (bv (fil M n i)) 5) :
    Blk wr g (bv (fil M n (i + 1))) 5 ∧ M.drop (i + 1) = marks md' (bs.drop (i + 1)) := by
  obtain ⟨h1, h2⟩ := head_of_drop hd
  refine ⟨?_, h2⟩
  rw [← fil_zero M n i hM hi h1]
  exact hB

set_option maxRecDepth 100000 in
set_option maxHeartbeats 2000000 in
theorem model_true (b off n c : Nat) (bs : List Int) (w : World) (HL : Hid (bs.length = n)) (hn : n ≤ 4194304) (HBS : Hid (Ints .u8 w b off bs)) (r : Int × Int) (HR : Hid (run true 0 0 0 0 bs = r)) :
    Calls Try.prog 20 #[.slice (some ⟨b, off, none⟩) n c, .bool true] w fun e w' => e = .returned (.tuple #[.int .i64 r.1, .int .i64 r.2]) ∧ Below w.heap.size w w' := by
  have hmk := run_make_row' (P := Try.prog) 22 5 (.int .u8 0) 1 Try.underlying22 Try.info5 rfl .i64 .i64 n (by omega) (by omega)
  obtain ⟨M, hM⟩ : ∃ M, M = marks 0 bs := ⟨_, rfl⟩
  have HML : Hid (M.length = n) := by show _ = _; rw [hM, marks_length, HL.out]
  have HR2 : Hid (run2 true 0 0 0 M = r) := by show _ = _; rw [hM, run2_marks]; exact HR.out
  have HM := hid hM
  clear hM
  go_enter Try.func20, Try.ntmps20
  go_wp2
  clear hmk
  go_loopg [7, 8] n (fun g vs vi wr => ∃ i md : Nat, i ≤ n ∧ md ≤ 2 ∧ g = n - i ∧ vs = .int .i64 md ∧ vi = .int .i64 i ∧ Hid (Blk wr w.heap.size (bv (fil M n i)) 5) ∧ Hid (M.drop i = marks md (bs.drop i)) ∧ Hid (Below w.heap.size w wr))
  case atStart =>
    refine ⟨0, 0, Nat.zero_le _, by omega, rfl, rfl, rfl, ?_, by have := HM.out; simpa [Hid] using this, (Below.refl _ _).alloc (Nat.le_refl _) _⟩
    have := Blk.made w (.int .u8 0) n 5
    unfold fil bv
    simpa [Hid] using this
  case round =>
    obtain ⟨i, md, hi, hmd, rfl, rfl, rfl, HB, HD, HE⟩ := hrel
    by_cases hlt : i < n
    · have c1 : wr.cell? ⟨b, off + i, none⟩ = some (.int .u8 (bs[i]?.getD 0)) := by
        have h0 := HBS.out i (by rw [HL.out]; exact hlt)
        rw [HE.out.cell (World.block_lt_of_cell? _ _ h0)]; exact h0
      have HD' := hid HD.out
      rw [drop_cons bs i (by rw [HL.out]; exact hlt)] at HD'
      have c2 := HB.out.icell (i := i) (by rw [fil_length _ _ _ HML.out hi]; exact hlt)
      have c3 := HB.out.frozen i
      generalize bs[i]?.getD 0 = ch at *
      generalize (fil M n i)[i]?.getD 0 = old at *
      clear HD
      by_cases m2 : md = 2
      · subst m2
        have HS := hid (fil_skip (bs := bs) (md' := 1) HML.out hlt (by have := HD'.out; rw [marks] at this; simp [*]) HB.out)
        go_wp2
        go_roundg (n - (i + 1))
        case measure => omega
        case rel => exact ⟨i + 1, 1, by omega, by omega, rfl, rfl, by go_num, hid HS.out.1, hid HS.out.2, HE⟩
      · by_cases m1 : md = 1
        · subst m1
          by_cases h92 : ch = 92
          · subst h92
            have HS := hid (fil_skip (bs := bs) (md' := 2) HML.out hlt (by have := HD'.out; rw [marks] at this; simp [*]) HB.out)
            go_wp2
            go_roundg (n - (i + 1))
            case measure => omega
            case rel => exact ⟨i + 1, 2, by omega, by omega, rfl, rfl, by go_num, hid HS.out.1, hid HS.out.2, HE⟩
          · have h92' : (ch == 92) = false := by simpa using h92
            by_cases h34 : ch = 34
            · subst h34
              have HS := hid (fil_step (bs := bs) (md' := 0) (m := 3) HML.out hlt (by have := HD'.out; rw [marks] at this; simp [*]) HB.out)
              go_wp2
              go_roundg (n - (i + 1))
              case measure => omega
              case rel => exact ⟨i + 1, 0, by omega, by omega, rfl, rfl, by go_num, hid HS.out.1, hid HS.out.2, HE.out.setCell (Nat.le_refl _) _⟩
            · have h34' : (ch == 34) = false := by simpa using h34
              have HS := hid (fil_skip (bs := bs) (md' := 1) HML.out hlt (by have := HD'.out; rw [marks] at this; simp [*]) HB.out)
              go_wp2
              go_roundg (n - (i + 1))
              case measure => omega
              case rel => exact ⟨i + 1, 1, by omega, by omega, rfl, rfl, by go_num, hid HS.out.1, hid HS.out.2, HE⟩
        · have m0 : md = 0 := by omega
          subst m0
          by_cases h34 : ch = 34
          · subst h34
            have HS := hid (fil_skip (bs := bs) (md' := 1) HML.out hlt (by have := HD'.out; rw [marks] at this; simp [*]) HB.out)
            go_wp2
            go_roundg (n - (i + 1))
            case measure => omega
            case rel => exact ⟨i + 1, 1, by omega, by omega, rfl, rfl, by go_num, hid HS.out.1, hid HS.out.2, HE⟩
          · have h34' : (ch == 34) = false := by simpa using h34
            by_cases ho : ch = 123 ∨ ch = 91
            · rcases ho with rfl | rfl
              all_goals
                have HS := hid (fil_step (bs := bs) (md' := 0) (m := 1) HML.out hlt (by have := HD'.out; rw [marks] at this; simp [*]) HB.out)
                go_wp2
                go_roundg (n - (i + 1))
                case measure => omega
                case rel => exact ⟨i + 1, 0, by omega, by omega, rfl, rfl, by go_num, hid HS.out.1, hid HS.out.2, HE.out.setCell (Nat.le_refl _) _⟩
            · have ho1 : (ch == 123) = false := by simp; omega
              have ho2 : (ch == 91) = false := by simp; omega
              by_cases hc : ch = 125 ∨ ch = 93
              · rcases hc with rfl | rfl
                all_goals
                  have HS := hid (fil_step (bs := bs) (md' := 0) (m := 2) HML.out hlt (by have := HD'.out; rw [marks] at this; simp [*]) HB.out)
                  go_wp2
                  go_roundg (n - (i + 1))
                  case measure => omega
                  case rel => exact ⟨i + 1, 0, by omega, by omega, rfl, rfl, by go_num, hid HS.out.1, hid HS.out.2, HE.out.setCell (Nat.le_refl _) _⟩
              · have hc1 : (ch == 125) = false := by simp; omega
                have hc2 : (ch == 93) = false := by simp; omega
                have HS := hid (fil_step (bs := bs) (md' := 0) (m := 0) HML.out hlt (by have := HD'.out; rw [marks] at this; simp [*]) HB.out)
                go_wp2
                go_roundg (n - (i + 1))
                case measure => omega
                case rel => exact ⟨i + 1, 0, by omega, by omega, rfl, rfl, by go_num, hid HS.out.1, hid HS.out.2, HE.out.setCell (Nat.le_refl _) _⟩
    · have HB2 : Hid (Blk wr w.heap.size (bv M) 5) := by
        have e : i = n := by omega
        subst e
        have := HB.out
        rw [fil_all _ _ HML.out] at this
        exact hid this
      clear HB HD
      go_wp2
      go_loopg [10, 11, 12] n (fun g ve vd vj wr' => ∃ (j : Nat) (dep deep : Int), g = n - j ∧ j ≤ n ∧ -j ≤ dep ∧ dep ≤ j ∧ 0 ≤ deep ∧ deep ≤ j ∧ ve = .int .i64 dep ∧ vd = .int .i64 deep ∧ vj = .int .i64 j ∧ Hid (run2 true j dep deep (M.drop j) = r) ∧ Hid (wr' = wr))
      case atStart => exact ⟨0, 0, 0, rfl, by omega, by omega, by omega, by omega, by omega, rfl, rfl, rfl, by simpa using HR2, rfl⟩
      case round =>
        obtain ⟨j, dep, deep, rfl, hj, hd1, hd2, hd3, hd4, rfl, rfl, rfl, HI, HW⟩ := hrel
        have hw := HW.out
        subst hw
        clear HW
        by_cases hlt2 : j < n
        · have c1 := HB2.out.icell (i := j) (by rw [HML.out]; exact hlt2)
          have HI' := hid HI.out
          rw [drop_cons _ _ (by rw [HML.out]; exact hlt2)] at HI'
          generalize M[j]?.getD 0 = mj at *
          clear HI
          by_cases h1 : mj = 1
          · subst h1
            go_wp2
            all_goals
              go_roundg (n - (j + 1))
              case measure => omega
              case rel =>
                refine ⟨j + 1, dep + 1, (if deep < dep + 1 then dep + 1 else deep), rfl, by omega, by omega, by omega, by split <;> omega, by split <;> omega, rfl, ?_, by go_num, hid ?_, rfl⟩
                · first | rw [if_pos (by omega)] | rw [if_neg (by omega)]
                · have := HI'.out
                  rw [run2] at this
                  simpa using this
          · have h1' : (mj == 1) = false := by simpa using h1
            by_cases h2 : mj = 2
            · subst h2
              by_cases hz : dep - 1 = 0
              · have hz' : (dep - 1 == 0) = true := by simpa using hz
                have HZ := hid hz
                clear hz
                go_wp2
                go_ret2
                have := HI'.out
                rw [run2] at this
                simp [HZ.out] at this
                subst this
                exact ⟨rfl, HE⟩
              · have hz' : (dep - 1 == 0) = false := by simpa using hz
                have HZ := hid hz
                clear hz
                go_wp2
                go_roundg (n - (j + 1))
                case measure => omega
                case rel =>
                  refine ⟨j + 1, dep - 1, deep, rfl, by omega, by omega, by omega, by omega, by omega, rfl, rfl, by go_num, hid ?_, rfl⟩
                  have := HI'.out
                  rw [run2] at this
                  simpa [HZ.out] using this
            · have h2' : (mj == 2) = false := by simpa using h2
              by_cases h3 : mj = 3
              · subst h3
                by_cases hz : dep = 0
                · have hz' : (dep == 0) = true := by simpa using hz
                  have HZ := hid hz
                  clear hz
                  go_wp2
                  go_ret2
                  have := HI'.out
                  rw [run2] at this
                  simp [HZ.out] at this
                  subst this
                  exact ⟨rfl, HE⟩
                · have hz' : (dep == 0) = false := by simpa using hz
                  have HZ := hid hz
                  clear hz
                  go_wp2
                  go_roundg (n - (j + 1))
                  case measure => omega
                  case rel =>
                    refine ⟨j + 1, dep, deep, rfl, by omega, by omega, by omega, by omega, by omega, rfl, rfl, by go_num, hid ?_, rfl⟩
                    have := HI'.out
                    rw [run2] at this
                    simpa [HZ.out] using this
              · have h3' : (mj == 3) = false := by simpa using h3
                have H1 := hid h1
                have H2 := hid h2
                have H3 := hid h3
                clear h1 h2 h3
                go_wp2
                go_roundg (n - (j + 1))
                case measure => omega
                case rel =>
                  refine ⟨j + 1, dep, deep, rfl, by omega, by omega, by omega, by omega, by omega, rfl, rfl, by go_num, hid ?_, rfl⟩
                  have := HI'.out
                  rw [run2] at this
                  simpa [H1.out, H2.out, H3.out] using this
        · go_wp2
          go_ret2
          have := HI.out
          rw [drop_past _ _ (by rw [HML.out]; omega)] at this
          simp [run2] at this
          subst this
          exact ⟨rfl, HE⟩

set_option maxRecDepth 100000 in
set_option maxHeartbeats 2000000 in
theorem model_false (b off n c : Nat) (bs : List Int) (w : World) (HL : Hid (bs.length = n)) (hn : n ≤ 4194304) (HBS : Hid (Ints .u8 w b off bs)) (r : Int × Int) (HR : Hid (run false 0 0 0 0 bs = r)) :
    Calls Try.prog 20 #[.slice (some ⟨b, off, none⟩) n c, .bool false] w fun e w' => e = .returned (.tuple #[.int .i64 r.1, .int .i64 r.2]) ∧ Below w.heap.size w w' := by
  have hmk := run_make_row' (P := Try.prog) 22 5 (.int .u8 0) 1 Try.underlying22 Try.info5 rfl .i64 .i64 n (by omega) (by omega)
  obtain ⟨M, hM⟩ : ∃ M, M = marks 0 bs := ⟨_, rfl⟩
  have HML : Hid (M.length = n) := by show _ = _; rw [hM, marks_length, HL.out]
  have HR2 : Hid (run2 false 0 0 0 M = r) := by show _ = _; rw [hM, run2_marks]; exact HR.out
  have HM := hid hM
  clear hM
  go_enter Try.func20, Try.ntmps20
  go_wp2
  clear hmk
  go_loopg [7, 8] n (fun g vs vi wr => ∃ i md : Nat, i ≤ n ∧ md ≤ 2 ∧ g = n - i ∧ vs = .int .i64 md ∧ vi = .int .i64 i ∧ Hid (Blk wr w.heap.size (bv (fil M n i)) 5) ∧ Hid (M.drop i = marks md (bs.drop i)) ∧ Hid (Below w.heap.size w wr))
  case atStart =>
    refine ⟨0, 0, Nat.zero_le _, by omega, rfl, rfl, rfl, ?_, by have := HM.out; simpa [Hid] using this, (Below.refl _ _).alloc (Nat.le_refl _) _⟩
    have := Blk.made w (.int .u8 0) n 5
    unfold fil bv
    simpa [Hid] using this
  case round =>
    obtain ⟨i, md, hi, hmd, rfl, rfl, rfl, HB, HD, HE⟩ := hrel
    by_cases hlt : i < n
    · have c1 : wr.cell? ⟨b, off + i, none⟩ = some (.int .u8 (bs[i]?.getD 0)) := by
        have h0 := HBS.out i (by rw [HL.out]; exact hlt)
        rw [HE.out.cell (World.block_lt_of_cell? _ _ h0)]; exact h0
      have HD' := hid HD.out
      rw [drop_cons bs i (by rw [HL.out]; exact hlt)] at HD'
      have c2 := HB.out.icell (i := i) (by rw [fil_length _ _ _ HML.out hi]; exact hlt)
      have c3 := HB.out.frozen i
      generalize bs[i]?.getD 0 = ch at *
      generalize (fil M n i)[i]?.getD 0 = old at *
      clear HD
      by_cases m2 : md = 2
      · subst m2
        have HS := hid (fil_skip (bs := bs) (md' := 1) HML.out hlt (by have := HD'.out; rw [marks] at this; simp [*]) HB.out)
        go_wp2
        go_roundg (n - (i + 1))
        case measure => omega
        case rel => exact ⟨i + 1, 1, by omega, by omega, rfl, rfl, by go_num, hid HS.out.1, hid HS.out.2, HE⟩
      · by_cases m1 : md = 1
        · subst m1
          by_cases h92 : ch = 92
          · subst h92
            have HS := hid (fil_skip (bs := bs) (md' := 2) HML.out hlt (by have := HD'.out; rw [marks] at this; simp [*]) HB.out)
            go_wp2
            go_roundg (n - (i + 1))
            case measure => omega
            case rel => exact ⟨i + 1, 2, by omega, by omega, rfl, rfl, by go_num, hid HS.out.1, hid HS.out.2, HE⟩
          · have h92' : (ch == 92) = false := by simpa using h92
            by_cases h34 : ch = 34
            · subst h34
              have HS := hid (fil_step (bs := bs) (md' := 0) (m := 3) HML.out hlt (by have := HD'.out; rw [marks] at this; simp [*]) HB.out)
              go_wp2
              go_roundg (n - (i + 1))
              case measure => omega
              case rel => exact ⟨i + 1, 0, by omega, by omega, rfl, rfl, by go_num, hid HS.out.1, hid HS.out.2, HE.out.setCell (Nat.le_refl _) _⟩
            · have h34' : (ch == 34) = false := by simpa using h34
              have HS := hid (fil_skip (bs := bs) (md' := 1) HML.out hlt (by have := HD'.out; rw [marks] at this; simp [*]) HB.out)
              go_wp2
              go_roundg (n - (i + 1))
              case measure => omega
              case rel => exact ⟨i + 1, 1, by omega, by omega, rfl, rfl, by go_num, hid HS.out.1, hid HS.out.2, HE⟩
        · have m0 : md = 0 := by omega
          subst m0
          by_cases h34 : ch = 34
          · subst h34
            have HS := hid (fil_skip (bs := bs) (md' := 1) HML.out hlt (by have := HD'.out; rw [marks] at this; simp [*]) HB.out)
            go_wp2
            go_roundg (n - (i + 1))
            case measure => omega
            case rel => exact ⟨i + 1, 1, by omega, by omega, rfl, rfl, by go_num, hid HS.out.1, hid HS.out.2, HE⟩
          · have h34' : (ch == 34) = false := by simpa using h34
            by_cases ho : ch = 123 ∨ ch = 91
            · rcases ho with rfl | rfl
              all_goals
                have HS := hid (fil_step (bs := bs) (md' := 0) (m := 1) HML.out hlt (by have := HD'.out; rw [marks] at this; simp [*]) HB.out)
                go_wp2
                go_roundg (n - (i + 1))
                case measure => omega
                case rel => exact ⟨i + 1, 0, by omega, by omega, rfl, rfl, by go_num, hid HS.out.1, hid HS.out.2, HE.out.setCell (Nat.le_refl _) _⟩
            · have ho1 : (ch == 123) = false := by simp; omega
              have ho2 : (ch == 91) = false := by simp; omega
              by_cases hc : ch = 125 ∨ ch = 93
              · rcases hc with rfl | rfl
                all_goals
                  have HS := hid (fil_step (bs := bs) (md' := 0) (m := 2) HML.out hlt (by have := HD'.out; rw [marks] at this; simp [*]) HB.out)
                  go_wp2
                  go_roundg (n - (i + 1))
                  case measure => omega
                  case rel => exact ⟨i + 1, 0, by omega, by omega, rfl, rfl, by go_num, hid HS.out.1, hid HS.out.2, HE.out.setCell (Nat.le_refl _) _⟩
              · have hc1 : (ch == 125) = false := by simp; omega
                have hc2 : (ch == 93) = false := by simp; omega
                have HS := hid (fil_step (bs := bs) (md' := 0) (m := 0) HML.out hlt (by have := HD'.out; rw [marks] at this; simp [*]) HB.out)
                go_wp2
                go_roundg (n - (i + 1))
                case measure => omega
                case rel => exact ⟨i + 1, 0, by omega, by omega, rfl, rfl, by go_num, hid HS.out.1, hid HS.out.2, HE.out.setCell (Nat.le_refl _) _⟩
    · have HB2 : Hid (Blk wr w.heap.size (bv M) 5) := by
        have e : i = n := by omega
        subst e
        have := HB.out
        rw [fil_all _ _ HML.out] at this
        exact hid this
      clear HB HD
      go_wp2
      go_loopg [10, 11, 12] n (fun g ve vd vj wr' => ∃ (j : Nat) (dep deep : Int), g = n - j ∧ j ≤ n ∧ -j ≤ dep ∧ dep ≤ j ∧ 0 ≤ deep ∧ deep ≤ j ∧ ve = .int .i64 dep ∧ vd = .int .i64 deep ∧ vj = .int .i64 j ∧ Hid (run2 false j dep deep (M.drop j) = r) ∧ Hid (wr' = wr))
      case atStart => exact ⟨0, 0, 0, rfl, by omega, by omega, by omega, by omega, by omega, rfl, rfl, rfl, by simpa using HR2, rfl⟩
      case round =>
        obtain ⟨j, dep, deep, rfl, hj, hd1, hd2, hd3, hd4, rfl, rfl, rfl, HI, HW⟩ := hrel
        have hw := HW.out
        subst hw
        clear HW
        by_cases hlt2 : j < n
        · have c1 := HB2.out.icell (i := j) (by rw [HML.out]; exact hlt2)
          have HI' := hid HI.out
          rw [drop_cons _ _ (by rw [HML.out]; exact hlt2)] at HI'
          generalize M[j]?.getD 0 = mj at *
          clear HI
          by_cases h1 : mj = 1
          · subst h1
            go_wp2
            all_goals
              go_roundg (n - (j + 1))
              case measure => omega
              case rel =>
                refine ⟨j + 1, dep + 1, (if deep < dep + 1 then dep + 1 else deep), rfl, by omega, by omega, by omega, by split <;> omega, by split <;> omega, rfl, ?_, by go_num, hid ?_, rfl⟩
                · first | rw [if_pos (by omega)] | rw [if_neg (by omega)]
                · have := HI'.out
                  rw [run2] at this
                  simpa using this
          · have h1' : (mj == 1) = false := by simpa using h1
            by_cases h2 : mj = 2
            · subst h2
              go_wp2
              go_roundg (n - (j + 1))
              case measure => omega
              case rel =>
                refine ⟨j + 1, dep - 1, deep, rfl, by omega, by omega, by omega, by omega, by omega, rfl, rfl, by go_num, hid ?_, rfl⟩
                have := HI'.out
                rw [run2] at this
                simpa using this
            · have h2' : (mj == 2) = false := by simpa using h2
              by_cases h3 : mj = 3
              · subst h3
                go_wp2
                go_roundg (n - (j + 1))
                case measure => omega
                case rel =>
                  refine ⟨j + 1, dep, deep, rfl, by omega, by omega, by omega, by omega, by omega, rfl, rfl, by go_num, hid ?_, rfl⟩
                  have := HI'.out
                  rw [run2] at this
                  simpa using this
              · have h3' : (mj == 3) = false := by simpa using h3
                have H1 := hid h1
                have H2 := hid h2
                have H3 := hid h3
                clear h1 h2 h3
                go_wp2
                go_roundg (n - (j + 1))
                case measure => omega
                case rel =>
                  refine ⟨j + 1, dep, deep, rfl, by omega, by omega, by omega, by omega, by omega, rfl, rfl, by go_num, hid ?_, rfl⟩
                  have := HI'.out
                  rw [run2] at this
                  simpa [H1.out, H2.out, H3.out] using this
        · go_wp2
          go_ret2
          have := HI.out
          rw [drop_past _ _ (by rw [HML.out]; omega)] at this
          simp [run2] at this
          subst this
          exact ⟨rfl, HE⟩

end Go.Proofs.Qxb6601149a
