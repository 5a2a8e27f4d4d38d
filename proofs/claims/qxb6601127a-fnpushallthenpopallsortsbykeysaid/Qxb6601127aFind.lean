import Derived.Test.Qxb6601127aMerge
namespace Go.Proofs.Qxb6601127a
open Go.RowKit
set_option linter.unusedVariables false
set_option linter.unusedSimpArgs false

theorem hid'' {p : Prop} (h : p) : Hid p := h


set_option maxRecDepth 100000 in
set_option maxHeartbeats 2000000 in
theorem find_any (ab ao n ac ob oc : Nat) (cs : List Int) (xs : List Nat) (q : Nat) (cv : Int) (w : World) (HL : Hid (cs.length = n)) (hn : n ≤ 1048576) (HLX : Hid (xs.length = n))
    (HA : Hid (Ints .i32 w ab ao cs)) (HO : Hid (Blk w ob (xs.map nv) 3)) (HR : Hid (∀ i, i < n → xs[i]?.getD 0 < n)) (hq : q < n)
    (HQ1 : Hid (∀ k, k < q → cs[xs[k]?.getD 0]?.getD 0 < cv)) (HQ2 : Hid (cs[xs[q]?.getD 0]?.getD 0 = cv)) (HQ3 : Hid (∀ k, q ≤ k → k < n → cv ≤ cs[xs[k]?.getD 0]?.getD 0)) (p : Nat) (HP : Hid (xs[q]?.getD 0 = p)) :
    Calls Try.prog 17 #[.slice (some ⟨ab, ao, none⟩) n ac, .slice (some ⟨ob, 0, none⟩) n oc, .int .i32 cv] w fun e w' => e = .returned (.int .i64 (p : Int)) ∧ w = w' := by
  go_enter Try.func17, Try.ntmps17
  go_wp2
  go_loopg [7, 8] n (fun g vlo vhi wr => ∃ lo hi : Nat, g = hi - lo ∧ lo ≤ q ∧ q ≤ hi ∧ hi ≤ n ∧ vlo = .int .i64 lo ∧ vhi = .int .i64 hi ∧ Hid (wr = w))
  case atStart => exact ⟨0, n, rfl, Nat.zero_le _, by omega, Nat.le_refl _, rfl, rfl, rfl⟩
  case round =>
    obtain ⟨lo, hi, rfl, h1, h2, h3, rfl, rfl, HW⟩ := hrel
    have hw := HW.out
    subst hw
    clear HW
    by_cases hlt : lo < hi
    · obtain ⟨mid, hmid⟩ : ∃ mid, mid = lo + (hi - lo) / 2 := ⟨_, rfl⟩
      have hm1 : lo ≤ mid := by omega
      have hm2 : mid < hi := by omega
      have emid : (lo : Int) + ((hi : Int) - lo) / 2 = mid := by omega
      have c1 := HO.out.ncell (i := mid) (by rw [HLX.out]; omega)
      have b1 := HR.out mid (by omega)
      have HQ1' : Hid (mid < q → cs[xs[mid]?.getD 0]?.getD 0 < cv) := fun h => HQ1.out mid h
      have HQ3' : Hid (q ≤ mid → cv ≤ cs[xs[mid]?.getD 0]?.getD 0) := fun h => HQ3.out mid h (by omega)
      generalize xs[mid]?.getD 0 = xm at *
      have c2 := HA.out xm (by rw [HL.out]; exact b1)
      generalize cs[xm]?.getD 0 = cm at *
      have Hmid := hid'' hmid
      clear hmid
      go_wp2
      · have hc : cm < cv := by assumption
        go_roundg (hi - (mid + 1))
        case measure => omega
        case rel =>
          have hmq : mid < q := by
            by_cases h : mid < q
            · exact h
            · have := HQ3'.out (by omega); omega
          exact ⟨mid + 1, hi, rfl, by omega, h2, h3, by go_num, rfl, rfl⟩
      · have hc : cv ≤ cm := by assumption
        go_roundg (mid - lo)
        case measure => omega
        case rel =>
          have hmq : q ≤ mid := by
            by_cases h : q ≤ mid
            · exact h
            · have := HQ1'.out (by omega); omega
          exact ⟨lo, mid, rfl, h1, hmq, by omega, rfl, rfl, rfl⟩
    · have e1 : lo = q := by omega
      subst e1
      have c1 := HO.out.ncell (i := lo) (by rw [HLX.out]; omega)
      have b1 := HR.out lo (by omega)
      have HQ2' := hid'' HQ2.out
      rw [HP.out] at c1 b1 HQ2'
      have c2 := HA.out p (by rw [HL.out]; exact b1)
      rw [HQ2'.out] at c2
      have hloN : (lo : Int) < n := by omega
      have hce : (cv == cv) = true := by simp
      go_wp2
      go_ret
      exact ⟨rfl, rfl⟩

end Go.Proofs.Qxb6601127a
