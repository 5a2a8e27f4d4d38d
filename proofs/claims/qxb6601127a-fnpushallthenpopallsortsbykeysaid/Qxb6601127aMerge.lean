import Derived.Test.Qxb6601127aBefore
import Derived.Deep.CutRange
namespace Go.Proofs.Qxb6601127a
open Go.RowKit
set_option linter.unusedVariables false

/-- a place as the program holds it -/
def nv (i : Nat) : Value := .int .i64 i

theorem Blk.ncell {w : World} {b : Nat} {xs : List Nat} {e : TypeId} (h : Blk w b (xs.map nv) e) {i : Nat} (hi : i < xs.length) : w.cell? ⟨b, i, none⟩ = some (.int .i64 ((xs[i]?.getD 0 : Nat) : Int)) := by
  rw [h.cell]; simp [hi, nv]

theorem Blk.nset {w : World} {b : Nat} {xs : List Nat} {e : TypeId} (h : Blk w b (xs.map nv) e) (i : Nat) (v : Nat) : Blk (w.setCell ⟨b, i, none⟩ (.int .i64 (v : Int))) b ((xs.set i v).map nv) e := by
  rw [List.map_set]; exact h.set i _

theorem BArg.below {w w' : World} {bv : Value} {bs : Option (List Int)} {n : Nat} (h : BArg w bv bs n) (hb : Below w.heap.size w w') : BArg w' bv bs n := by
  rcases h with h | ⟨l, bb, bo, bc, h1, h2, h3, h4⟩
  · exact .inl h
  · refine .inr ⟨l, bb, bo, bc, h1, h2, h3, ?_⟩
    intro i hi
    have := World.block_lt_of_cell? _ _ (h4 i hi)
    rw [hb.cell this]; exact h4 i hi

theorem Ints.below' {k : IntKind} {w w' : World} {b off : Nat} {zs : List Int} (h : Ints k w b off zs) (hb : Below w.heap.size w w') : Ints k w' b off zs := by
  intro i hi
  have := World.block_lt_of_cell? _ _ (h i hi)
  rw [hb.cell this]; exact h i hi

/-- the world while zzMergeOrder works: x lies in block xb, y in block yb -/
structure MW (w : World) (n : Nat) (xb yb : Nat) (xs ys : List Nat) (wr : World) : Prop where
  ne : xb ≠ yb
  hx : w.heap.size ≤ xb
  hy : w.heap.size ≤ yb
  lx : xs.length = n
  ly : ys.length = n
  bx : Blk wr xb (xs.map nv) 3
  yy : Blk wr yb (ys.map nv) 3
  bel : Below w.heap.size w wr
  size : wr.heap.size = w.heap.size + 2

theorem MW.set {w : World} {n xb yb : Nat} {xs ys : List Nat} {wr : World} (h : MW w n xb yb xs ys wr) (i v : Nat) : MW w n xb yb xs (ys.set i v) (wr.setCell ⟨yb, i, none⟩ (.int .i64 (v : Int))) :=
  ⟨h.ne, h.hx, h.hy, h.lx, by rw [List.length_set]; exact h.ly, h.bx.set_ne _ _ h.ne, h.yy.nset _ _, h.bel.setCell h.hy _, by simpa using h.size⟩

theorem MW.drewN {w : World} {n xb yb : Nat} {xs ys : List Nat} {wr : World} (h : MW w n xb yb xs ys wr) (m : Nat) : MW w n xb yb xs ys (wr.drewN m) :=
  ⟨h.ne, h.hx, h.hy, h.lx, h.ly, h.bx, h.yy, Below.drewN' h.bel m, h.size⟩

theorem MW.swap {w : World} {n xb yb : Nat} {xs ys : List Nat} {wr : World} (h : MW w n xb yb xs ys wr) : MW w n yb xb ys xs wr :=
  ⟨h.ne.symm, h.hy, h.hx, h.ly, h.lx, h.yy, h.bx, h.bel, h.size⟩

set_option maxRecDepth 100000 in
set_option maxHeartbeats 2000000 in
theorem merge_any (ab ao n ac : Nat) (bv : Value) (cs : List Int) (bs : Option (List Int)) (w : World) (HL : Hid (cs.length = n))
    (hn0 : 0 < n) (hn : n ≤ 1048576) (HA : Hid (Ints .i32 w ab ao cs)) (HB : Hid (BArg w bv bs n)) :
    Calls Try.prog 12 #[.slice (some ⟨ab, ao, none⟩) n ac, bv] w fun e w' => ∃ xb xs, e = .returned (.slice (some ⟨xb, 0, none⟩) n n) ∧ w.heap.size ≤ xb ∧ Blk w' xb (xs.map nv) 3 ∧ Sorted cs bs n xs ∧ Below w.heap.size w w' := by
  have hmk := run_make_row' (P := Try.prog) 22 3 (.int .i64 0) 8 Try.underlying22 Try.info3 rfl .i64 .i64 n (by omega) (by omega)
  go_enter Try.func12, Try.ntmps12
  go_wp2
  go_loopg [7] n (fun g i wr => ∃ k : Nat, k ≤ n ∧ g = n - k ∧ i = .int .i64 k ∧ Hid (∃ xs : List Nat, xs.length = n ∧ xs.take k = (List.range n).take k ∧ Blk wr w.heap.size (xs.map nv) 3) ∧ Hid (Below w.heap.size w wr) ∧ Hid (wr.heap.size = w.heap.size + 1))
  case atStart =>
    refine ⟨0, Nat.zero_le _, rfl, rfl, ⟨List.replicate n 0, by simp, by simp, ?_⟩, (Below.refl _ _).alloc (Nat.le_refl _) _, by simp [Hid]⟩
    rw [List.map_replicate]
    exact Blk.made w _ _ _
  case round =>
    obtain ⟨k, hk, rfl, rfl, HY, HE, HZ⟩ := hrel
    by_cases hlt : k < n
    · obtain ⟨xs, HX, HT, hB⟩ := HY.out
      have hc2 := hB.ncell (i := k) (by omega)
      have hf2 := hB.frozen k
      have HB' : Hid (Blk wr w.heap.size (xs.map nv) 3) := hB
      clear hmk hB
      have HX' : Hid (xs.length = n) := HX
      have HT' : Hid _ := HT
      clear HX HT
      go_wp2
      go_roundg (n - (k + 1))
      case measure => omega
      case rel =>
        refine ⟨k + 1, by omega, rfl, by go_num, ⟨_, ?_, ?_, HB'.out.nset k _⟩, HE.out.setCell (by simp) _, by have := HZ.out; simpa [Hid] using this⟩
        · rw [List.length_set]; exact HX'
        · have := take_fill (d := 0) (by rw [HX'.out]; exact hlt) (by simpa using hlt) HT'.out
          simpa [hlt] using this
    · have HM : Hid (∃ ys, MW w n w.heap.size wr.heap.size (List.range n) ys (wr.alloc (.cells (madeCells #[.int .i64 0] n) 3))) := by
        obtain ⟨xs, HX, HT, hB⟩ := HY.out
        have hz := HZ.out
        have e : xs = List.range n := by
          rwa [List.take_of_length_le (by omega), List.take_of_length_le (by simp; omega)] at HT
        subst e
        refine ⟨List.replicate n 0, by omega, Nat.le_refl _, by omega, by simp, by simp, hB.alloc _, ?_, HE.out.alloc (by omega) _, by simpa using hz⟩
        rw [List.map_replicate]
        exact Blk.made wr _ _ _
      clear HY HE HZ
      go_wp2
      clear hmk
      go_loopg [6, 8, 9] (n - 1) (fun g x y t wr => ∃ W xb yb : Nat, g = n - W ∧ 1 ≤ W ∧ W ≤ 2 * n ∧ x = .slice (some ⟨xb, 0, none⟩) n n ∧ y = .slice (some ⟨yb, 0, none⟩) n n ∧ t = .int .i64 W ∧
        Hid (∃ xs ys, MW w n xb yb xs ys wr ∧ xs.Perm (List.range n) ∧ Runs (leq cs bs) W xs))
      case atStart =>
        obtain ⟨ys, hM⟩ := HM.out
        exact ⟨1, _, _, rfl, Nat.le_refl _, by omega, rfl, rfl, rfl, _, ys, hM, List.Perm.refl _, runs_one _ _⟩
      case round =>
        obtain ⟨W, xb, yb, rfl, hW1, hW2, rfl, rfl, rfl, HI⟩ := hrel
        clear HM
        by_cases hWn : W < n
        · go_wp2
          obtain ⟨xs, ys0, hM0, HP, HR⟩ := HI.out
          have HP' : Hid _ := HP
          have HR' : Hid _ := HR
          have hM0' : Hid _ := hM0
          clear HI HP HR hM0
          go_loopg [10] n (fun g lo wr => ∃ t : Nat, g = n - 2 * W * t ∧ lo = .int .i64 ((2 * W * t : Nat) : Int) ∧ 2 * W * t ≤ 3 * n ∧ Hid (∃ ys, MW w n xb yb xs ys wr ∧ Pass (leq cs bs) (2 * W) xs ys (min (2 * W * t) n)))
          case atStart =>
            obtain hM := hM0'.out
            exact ⟨0, by simp, by simp, by omega, ys0, hM, by simpa using pass_zero _ _ _ _⟩
          case round =>
            obtain ⟨t, rfl, rfl, hlo3, HI⟩ := hrel
            clear hM0'
            generalize hlo : 2 * W * t = lo at *
            have Hlo : Hid _ := hlo
            clear hlo
            by_cases hln : lo < n
            · obtain ⟨mid, hmid⟩ : ∃ mid, mid = min (lo + W) n := ⟨_, rfl⟩
              obtain ⟨hi, hhi⟩ : ∃ hi, hi = min (lo + 2 * W) n := ⟨_, rfl⟩
              have Hmid : Hid _ := hmid
              have Hhi : Hid _ := hhi
              have bm1 : lo ≤ mid := by omega
              have bm2 : mid ≤ hi := by omega
              have bm3 : hi ≤ n := by omega
              clear hmid hhi
              go_upto_if 48 with fail
              go_cut [11] from 36 to 127 (fun m wc => Hid (wc = wr) ∧ m = .int .i64 (mid : Int))
              case first =>
                have hmid := Hmid.out
                have Hmid' : Hid (mid = lo + W ∨ (mid = n ∧ n < lo + W)) := by unfold Hid; omega
                clear hmid
                go_wp2
                all_goals
                  go_meet
                  case rel =>
                    refine ⟨rfl, ?_⟩
                    have := Hmid'.out
                    congr 1; omega
              case rest =>
                obtain ⟨HW, rfl⟩ := hcut
                have hwc := HW.out
                subst hwc
                clear HW
                go_upto_if 56 with fail
                go_cut [12] from 36 to 127 (fun m wc' => Hid (wc' = wc) ∧ m = .int .i64 (hi : Int))
                case first =>
                  have hhi := Hhi.out
                  have Hhi' : Hid (hi = lo + 2 * W ∨ (hi = n ∧ n < lo + 2 * W)) := by unfold Hid; omega
                  clear hhi
                  go_wp2
                  all_goals
                    go_meet
                    case rel =>
                      refine ⟨rfl, ?_⟩
                      have := Hhi'.out
                      congr 1; omega
                case rest =>
                  obtain ⟨HW, rfl⟩ := hcut
                  have hwc := HW.out
                  subst hwc
                  clear HW
                  go_wp2
                  obtain ⟨ys1, hM1, hP1⟩ := HI.out
                  have HM1 : Hid _ := hM1
                  have HY1 : Hid _ := hM1.ly
                  have HP1 : Hid _ := hP1
                  clear hM1 hP1 HI
                  have HR1 : Hid (MInv (leq cs bs) xs mid hi (goal (leq cs bs) xs ys1 lo mid hi) lo mid ys1) := minv_start _ _ _ _ _ _
                  generalize hR : goal (leq cs bs) xs ys1 lo mid hi = R at *
                  have HR2 : Hid _ := hR
                  clear hR
                  go_loopg [13, 14, 15] ((mid - lo) + (hi - mid)) (fun g vi vj vk wr => ∃ i j k : Nat, g = (mid - i) + (hi - j) ∧ Hid (k + mid = i + j) ∧ lo ≤ i ∧ i ≤ mid ∧ mid ≤ j ∧ j ≤ hi ∧ vi = .int .i64 i ∧ vj = .int .i64 j ∧ vk = .int .i64 k ∧
                    Hid (∃ ys, MW w n xb yb xs ys wr ∧ MInv (leq cs bs) xs mid hi R i j ys))
                  case atStart => exact ⟨lo, mid, lo, rfl, by unfold Hid; omega, by omega, by omega, by omega, by omega, rfl, rfl, rfl, ys1, HM1, HR1⟩
                  case round =>
                    obtain ⟨i, j, k, rfl, Hk, hi1, hi2, hj1, hj2, rfl, rfl, rfl, HI⟩ := hrel
                    clear HM1 HR1
                    by_cases hij : i < mid ∧ j < hi
                    · obtain ⟨hi3, hj3⟩ := hij
                      obtain ⟨ys, hM, hV⟩ := HI.out
                      have hkn : k < n := by have := Hk.out; omega
                      have c1 := hM.bx.ncell (i := j) (by rw [hM.lx]; omega)
                      have c2 := hM.bx.ncell (i := i) (by rw [hM.lx]; omega)
                      have c3 := hM.yy.ncell (i := k) (by rw [hM.ly]; omega)
                      have c4 := hM.yy.frozen k
                      have b1 := perm_range_lt HP'.out j (by omega)
                      have b2 := perm_range_lt HP'.out i (by omega)
                      have HA' : Hid (Ints .i32 wr ab ao cs) := HA.out.below' hM.bel
                      have HB' : Hid (BArg wr bv bs n) := HB.out.below hM.bel
                      have HL1 := minv_left hV hi3 hj1 hj2 (by rw [hM.lx]; omega) (by rw [hM.lx, hM.ly])
                      have HL2 := minv_right hV hi2 hj1 hj3 (by rw [hM.lx]; omega) (by rw [hM.lx, hM.ly])
                      have ek : i + j - mid = k := by have := Hk.out; omega
                      rw [ek] at HL1 HL2
                      generalize xs[j]?.getD 0 = xj at *
                      generalize xs[i]?.getD 0 = xi at *
                      have HL1' : Hid _ := HL1
                      have HL2' : Hid _ := HL2
                      have HM' : Hid _ := hM
                      clear HL1 HL2 hM hV HI ek HP' HR' HP1
                      have hbw := fun W => before_any ab ao n ac bv cs bs xj xi W HL b1 b2 hn
                      have HBW : Hid _ := hbw
                      clear hbw
                      go_wp2
                      go_quiet ((go_at_call 32; refine Calls.quiet_of (HBW.out _ ?_ ?_); exact HA'.out.drewN _; exact HB'.out.drewN _))
                      go_wp2
                      · have hb : bef cs bs xj xi = true := by assumption
                        go_roundg ((mid - i) + (hi - (j + 1)))
                        case measure => omega
                        case rel =>
                          refine ⟨i, j + 1, k + 1, rfl, by have := Hk.out; unfold Hid; omega, by omega, by omega, by omega, by omega, rfl, by go_num, by go_num, _, ?_, HL2'.out (fun _ => by unfold leq; rw [hb]; rfl)⟩
                          first | exact (HM'.out.set k xj).drewN _ | exact (HM'.out.drewN _).set k xj
                      · have hb : bef cs bs xj xi = false := by assumption
                        go_roundg ((mid - (i + 1)) + (hi - j))
                        case measure => omega
                        case rel =>
                          refine ⟨i + 1, j, k + 1, rfl, by have := Hk.out; unfold Hid; omega, by omega, by omega, by omega, by omega, by go_num, rfl, by go_num, _, ?_, HL1'.out (fun _ => by unfold leq; rw [hb]; rfl)⟩
                          first | exact (HM'.out.set k xi).drewN _ | exact (HM'.out.drewN _).set k xi
                    · have HD : Hid (¬ (i < mid ∧ j < hi)) := hij
                      clear hij
                      have HIJ : Hid ((i < mid → j = hi) ∧ (j < hi → i = mid)) := by
                        have := HD.out
                        unfold Hid; omega
                      clear HD
                      by_cases hi3 : i < mid
                      all_goals
                        have hj3 : ¬ (i < mid ∧ j < hi) := by have := HIJ.out; omega
                        go_wp2
                        go_loopg [13, 15] (mid - i) (fun g vi vk wr => ∃ i k : Nat, g = mid - i ∧ Hid (k + mid = i + j) ∧ i ≤ mid ∧ Hid (i < mid → j = hi) ∧ vi = .int .i64 i ∧ vk = .int .i64 k ∧
                          Hid (∃ ys, MW w n xb yb xs ys wr ∧ MInv (leq cs bs) xs mid hi R i j ys))
                        case atStart => exact ⟨i, k, rfl, Hk, hi2, HIJ.out.1, rfl, rfl, HI⟩
                        case round =>
                          clear hi3 hj3 HI Hk HIJ hi1 hi2
                          obtain ⟨i', k', rfl, Hk, hi2, HIJ, rfl, rfl, HI⟩ := hrel
                          by_cases hi3 : i' < mid
                          · obtain ⟨ys, hM, hV⟩ := HI.out
                            have hkn : k' < n := by have := Hk.out; omega
                            have c2 := hM.bx.ncell (i := i') (by rw [hM.lx]; omega)
                            have c3 := hM.yy.ncell (i := k') (by rw [hM.ly]; omega)
                            have c4 := hM.yy.frozen k'
                            have HL1 := minv_left hV hi3 hj1 hj2 (by rw [hM.lx]; omega) (by rw [hM.lx, hM.ly]) (by have := HIJ.out hi3; omega)
                            have ek : i' + j - mid = k' := by have := Hk.out; omega
                            rw [ek] at HL1
                            generalize xs[i']?.getD 0 = xi at *
                            have HL1' : Hid _ := HL1
                            have HM' : Hid _ := hM
                            clear HL1 hM hV HI ek HP' HR' HP1
                            go_wp2
                            go_roundg (mid - (i' + 1))
                            case measure => omega
                            case rel => exact ⟨i' + 1, k' + 1, rfl, by have := Hk.out; unfold Hid; omega, by omega, fun _ => HIJ.out hi3, by go_num, by go_num, _, HM'.out.set k' xi, HL1'.out⟩
                          · go_wp2
                            have hie : i' = mid := by omega
                            subst hie
                            clear hi3 hi2 HIJ
                            go_loopg [14, 15] (hi - j) (fun g vj vk wr => ∃ j : Nat, g = hi - j ∧ i' ≤ j ∧ j ≤ hi ∧ vj = .int .i64 j ∧ vk = .int .i64 j ∧
                              Hid (∃ ys, MW w n xb yb xs ys wr ∧ MInv (leq cs bs) xs i' hi R i' j ys))
                            case atStart =>
                              have ek : k' = j := by have := Hk.out; omega
                              subst ek
                              exact ⟨k', rfl, hj1, hj2, rfl, rfl, HI⟩
                            case round =>
                              clear HI Hk hj1 hj2
                              obtain ⟨j', rfl, hj1, hj2, rfl, rfl, HI⟩ := hrel
                              by_cases hj3 : j' < hi
                              · obtain ⟨ys, hM, hV⟩ := HI.out
                                have c1 := hM.bx.ncell (i := j') (by rw [hM.lx]; omega)
                                have c3 := hM.yy.ncell (i := j') (by rw [hM.ly]; omega)
                                have c4 := hM.yy.frozen j'
                                have HL2 := minv_right hV (Nat.le_refl _) hj1 hj3 (by rw [hM.lx]; omega) (by rw [hM.lx, hM.ly]) (by omega)
                                rw [Nat.add_sub_cancel_left] at HL2
                                generalize xs[j']?.getD 0 = xj at *
                                have HL2' : Hid _ := HL2
                                have HM' : Hid _ := hM
                                clear HL2 hM hV HI HP' HR' HP1
                                go_wp2
                                go_roundg (hi - (j' + 1))
                                case measure => omega
                                case rel => exact ⟨j' + 1, rfl, by omega, by omega, by go_num, by go_num, _, HM'.out.set j' xj, HL2'.out⟩
                              · go_wp2
                                have hje : j' = hi := by omega
                                subst hje
                                obtain ⟨ys, hM, hV⟩ := HI.out
                                have e1 := Hlo.out
                                have e0 : 2 * W * (t + 1) = lo + 2 * W := by rw [Nat.mul_succ, e1]
                                go_roundg (n - 2 * W * (t + 1))
                                case measure => omega
                                case rel =>
                                  refine ⟨t + 1, rfl, by rw [e0]; go_num, by omega, ys, hM, ?_⟩
                                  rw [e0]
                                  have hs := minv_end hV
                                  rw [← HR2.out] at hs
                                  have hpp := HP1.out
                                  rw [Nat.min_eq_left (by omega)] at hpp
                                  have := pass_step (t := t) (by omega) HR'.out hM.lx HY1.out (by rw [e1]) (by omega) Hmid.out Hhi.out hpp hs
                                  rw [Hhi.out] at this
                                  exact this
            · go_wp2
              obtain ⟨ys, hM, hP⟩ := HI.out
              have hpe := pass_end hP hM.lx hM.ly (by omega)
              go_roundg (n - 2 * W)
              case measure => omega
              case rel => exact ⟨2 * W, yb, xb, rfl, by omega, by omega, rfl, rfl, by go_num, ys, xs, hM.swap, hpe.2.trans HP'.out, hpe.1⟩
        · go_wp2
          obtain ⟨xs, ys, hM, hP, hR⟩ := HI.out
          go_ret
          exact ⟨xb, xs, rfl, hM.hx, hM.bx, sorted_of hP hR (by omega), hM.bel⟩

set_option maxRecDepth 100000 in
set_option maxHeartbeats 400000 in
theorem merge_zero (a : Option Addr) (ac : Nat) (bv : Value) (cs : List Int) (bs : Option (List Int)) (w : World) :
    Calls Try.prog 12 #[.slice a 0 ac, bv] w fun e w' => ∃ xb xs, e = .returned (.slice (some ⟨xb, 0, none⟩) 0 0) ∧ w.heap.size ≤ xb ∧ Blk w' xb (xs.map nv) 3 ∧ Sorted cs bs 0 xs ∧ Below w.heap.size w w' := by
  have hmk : ∀ w, (Instr.makeSlice 22 (.int .i64 0) (.int .i64 0)).run Try.prog w = .ok (.slice (some ⟨w.heap.size, 0, none⟩) 0 0) (w.alloc (.cells (madeCells #[.int .i64 0] 0) 3)) :=
    fun w => run_make_row' (P := Try.prog) 22 3 (.int .i64 0) 8 Try.underlying22 Try.info3 rfl .i64 .i64 0 (by omega) (by omega) w
  go_enter Try.func12, Try.ntmps12
  go_wp2
  go_loopg [7] 0 (fun g i wr => i = .int .i64 0 ∧ Hid (Blk wr w.heap.size [] 3) ∧ Hid (Below w.heap.size w wr) ∧ w.heap.size + 1 = wr.heap.size)
  case atStart =>
    refine ⟨rfl, ?_, (Below.refl _ _).alloc (Nat.le_refl _) _, by simp⟩
    exact Blk.made w _ 0 _
  case round =>
    obtain ⟨rfl, HB, HE, hz⟩ := hrel
    go_wp2
    go_loopg [6, 8, 9] 0 (fun g x y t wr' => x = .slice (some ⟨w.heap.size, 0, none⟩) 0 0 ∧ t = .int .i64 1 ∧ Hid (Blk wr' w.heap.size [] 3) ∧ Hid (Below w.heap.size w wr'))
    case atStart =>
      exact ⟨rfl, rfl, HB.out.alloc _, HE.out.alloc (by omega) _⟩
    case round =>
      obtain ⟨rfl, rfl, HB, HE⟩ := hrel
      go_wp2
      go_ret
      exact ⟨_, [], rfl, Nat.le_refl _, HB, ⟨by simp, by omega⟩, HE⟩

end Go.Proofs.Qxb6601127a
