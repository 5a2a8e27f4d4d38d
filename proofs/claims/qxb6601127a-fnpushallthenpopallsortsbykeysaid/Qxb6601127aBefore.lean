import Derived.Test.Qxb6601127aBase
import Derived.Test.Qxb6601127aMergePlain
namespace Go.Proofs.Qxb6601127a
open Go.RowKit

set_option linter.unusedVariables false

/-- The second argument of zzMergeOrder, of zzBefore: nil, or a slice of n integers. -/
def BArg (w : World) (bv : Value) (bs : Option (List Int)) (n : Nat) : Prop :=
  (bs = none ∧ bv = .slice none 0 0) ∨ ∃ l bb bo bc, bs = some l ∧ bv = .slice (some ⟨bb, bo, none⟩) n bc ∧ l.length = n ∧ Ints .i64 w bb bo l

theorem BArg.drewN {w : World} {bv : Value} {bs : Option (List Int)} {n : Nat} (h : BArg w bv bs n) (m : Nat) : BArg (w.drewN m) bv bs n := h

set_option maxHeartbeats 400000 in
theorem before_any (ab ao n ac : Nat) (bv : Value) (cs : List Int) (bs : Option (List Int)) (i j : Nat) (w : World) (HL : Hid (cs.length = n))
    (hi : i < n) (hj : j < n) (hn : n ≤ 1048576) (hA : Ints .i32 w ab ao cs) (hB : BArg w bv bs n) :
    Calls Try.prog 32 #[.slice (some ⟨ab, ao, none⟩) n ac, bv, .int .i64 i, .int .i64 j] w fun e w' => e = .returned (.bool (bef cs bs i j)) ∧ ∃ m, w' = w.drewN m := by
  have ci := hA i (by rw [HL.out]; exact hi)
  have cj := hA j (by rw [HL.out]; exact hj)
  have q22 : ∀ (w : World) (a : Option Addr) (n c n' c' : Nat), (binOp .eql 22 (.slice a n c) (.slice none n' c')).run Try.prog w = .ok (.bool a.isNone) w := fun w a n c n' c' => Lib.run_eql_slice_nil w _ _ a n c n' c' Try.underlying22
  unfold bef
  generalize cs[i]?.getD 0 = ai at *
  generalize cs[j]?.getD 0 = aj at *
  clear hA HL
  by_cases hne : ai = aj
  · subst hne
    rcases hB with ⟨rfl, rfl⟩ | ⟨l, bb, bo, bc, rfl, rfl, hl, hB⟩
    · go_enter Try.func32, Try.ntmps32
      go_wp2
      go_quiet (fail)
      go_wp2
      go_ret
      exact ⟨by simp, _, rfl⟩
    · have di := hB i (by rw [hl]; exact hi)
      have dj := hB j (by rw [hl]; exact hj)
      dsimp only
      generalize l[i]?.getD 0 = bi at *
      generalize l[j]?.getD 0 = bj at *
      clear hB hl
      go_enter Try.func32, Try.ntmps32
      go_wp2
      go_quiet (fail)
      go_wp2
      go_quiet (fail)
      go_wp2
      go_ret
      exact ⟨by simp, _, rfl⟩
  · have hb : (ai != aj) = true := by simpa using hne
    go_enter Try.func32, Try.ntmps32
    go_wp2
    go_quiet (fail)
    go_wp2
    go_quiet (fail)
    go_wp2
    go_ret
    exact ⟨by simp, _, rfl⟩

end Go.Proofs.Qxb6601127a
