import Derived.Test.Qxb6601127aBase
import Derived.Test.Qxb6601127aHeapPlain
namespace Go.Proofs.Qxb6601127a
open Go.RowKit
set_option linter.unusedVariables false

set_option maxHeartbeats 400000 in
theorem isHeap_any (b n c : Nat) (zs : List Int) (w : World) (HL : Hid (zs.length = n)) (hn : n ≤ 1048576) (HB : Hid (Ints .i64 w b 0 zs)) :
    Calls Try.prog 13 #[.slice (some ⟨b, 0, none⟩) n c] w fun e w' => e = .returned (.bool (isHp zs)) ∧ ∃ m, w' = w.drewN m := by
  go_enter Try.func13, Try.ntmps13
  go_wp2
  go_loopg [3] (n - 1) (fun g i wr => ∃ k m : Nat, g = n - k ∧ 1 ≤ k ∧ (k ≤ n ∨ k = 1) ∧ i = .int .i64 k ∧ Hid (wr = w.drewN m) ∧ Hid (∀ i, i < k → i < n → zs[(i - 1) / 2]?.getD 0 ≤ zs[i]?.getD 0))
  case atStart =>
    refine ⟨1, 0, rfl, Nat.le_refl _, .inr rfl, rfl, rfl, ?_⟩
    intro i h1 h2
    have : i = 0 := by omega
    subst this; simp
  case round =>
    obtain ⟨k, m, rfl, hk1, hk2, rfl, HW, HH⟩ := hrel
    have hw := HW.out
    subst hw
    clear HW
    by_cases hlt : k < n
    · have c1 := HB.out k (by rw [HL.out]; exact hlt)
      have c2 := HB.out ((k - 1) / 2) (by rw [HL.out]; omega)
      have HF : Hid (¬ zs[(k - 1) / 2]?.getD 0 ≤ zs[k]?.getD 0 → isHp zs = false) := fun h => isHp_false zs k (by rw [HL.out]; exact hlt) h
      have HG : Hid (zs[(k - 1) / 2]?.getD 0 ≤ zs[k]?.getD 0 → ∀ i, i < k + 1 → i < n → zs[(i - 1) / 2]?.getD 0 ≤ zs[i]?.getD 0) := by
        intro h i h1 h2
        by_cases e : i = k
        · subst e; exact h
        · exact HH.out i (by omega) h2
      rw [Nat.zero_add] at c1 c2
      generalize zs[(k - 1) / 2]?.getD 0 = p at *
      generalize zs[k]?.getD 0 = q at *
      go_wp2
      go_quiet (fail)
      go_wp2
      · go_ret
        exact ⟨ret_bool (HF.out (by omega)).symm, drew_more _ _ _⟩
      · go_roundg (n - (k + 1))
        case measure => omega
        case rel => exact ⟨k + 1, _, rfl, by omega, by omega, by go_num, rfl, HG.out (by omega)⟩
    · go_wp2
      go_ret
      refine ⟨?_, _, rfl⟩
      have : isHp zs = true := by
        rw [isHp_iff]; intro i hi
        rw [HL.out] at hi
        exact HH.out i (by omega) hi
      exact ret_bool this.symm

end Go.Proofs.Qxb6601127a
