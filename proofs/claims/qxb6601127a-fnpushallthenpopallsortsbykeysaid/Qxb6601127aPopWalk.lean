import Derived.Test.Qxb6601127aZZPop
import Derived.Test.Qxb6601127aIsHeap
import Derived.Test.Qxb6601127aClone
import Derived.Test.Qxb6601127aPopPlain
import Derived.Deep.RegionWith
namespace Go.Proofs.Qxb6601127a
open Go.RowKit
set_option linter.unusedVariables false
set_option linter.unusedSimpArgs false

theorem hid {p : Prop} (h : p) : Hid p := h

/-- a slice of integers that came in -/
def Row (k : IntKind) (w : World) (a : Option Addr) (len cap : Nat) (zs : List Int) : Prop :=
  (a = none ∧ len = 0 ∧ cap = 0 ∧ zs = []) ∨
  ∃ x, a = some x ∧ len ≤ cap ∧ cap ≤ maxLen ∧ zs.length = cap ∧ (∀ i, i < zs.length → w.cell? (x.add i) = some (.int k (zs.getD i 0))) ∧ ∀ n ∈ zs, (Lit.int k n).wf = true

theorem Row.some {k : IntKind} {w : World} {a : Option Addr} {len cap : Nat} {zs : List Int} (h : Row k w a len cap zs) (hl : 0 < len) :
    ∃ x, a = .some x ∧ (zs.take len).length = len ∧ ∀ i, i < len → w.cell? (x.add i) = .some (.int k ((zs.take len)[i]?.getD 0)) := by
  rcases h with ⟨_, h, _, _⟩ | ⟨x, h1, h2, h3, h4, h5, h6⟩
  · omega
  · refine ⟨x, h1, by rw [List.length_take]; omega, fun i hi => ?_⟩
    rw [h5 i (by omega), List.getD_eq_getElem?_getD]
    simp [hi]

theorem Row.len {k : IntKind} {w : World} {a : Option Addr} {len cap : Nat} {zs : List Int} (h : Row k w a len cap zs) : len ≤ 9223372036854775807 := by
  rcases h with ⟨_, h, _, _⟩ | ⟨x, h1, h2, h3, h4, h5, h6⟩
  · omega
  · unfold maxLen at h3; omega

set_option maxHeartbeats 400000 in
theorem bytes8 (a0 a1 : Option Addr) (n0 c0 n1 c1 : Nat) (w : World) (h0 : n0 ≤ 9223372036854775807) (h1 : n1 ≤ 9223372036854775807) :
    Calls Try.prog 8 #[.slice a0 n0 c0, .slice a1 n1 c1] w fun e w' => (∃ b, e = .returned (.bool b)) ∧ w = w' := by
  go_enter Try.func8, Try.ntmps8
  go_wp2
  all_goals (go_ret; exact ⟨⟨_, rfl⟩, rfl⟩)

theorem merge_all (ab ao n ac : Nat) (bv : Value) (cs : List Int) (bs : Option (List Int)) (w : World) (HL : Hid (cs.length = n)) (hn : n ≤ 1048576)
    (HA : Hid (Ints .i32 w ab ao cs)) (HB : Hid (BArg w bv bs n)) :
    Calls Try.prog 12 #[.slice (some ⟨ab, ao, none⟩) n ac, bv] w fun e w' => ∃ xb xs, e = .returned (.slice (some ⟨xb, 0, none⟩) n n) ∧ w.heap.size ≤ xb ∧ Blk w' xb (xs.map nv) 3 ∧ Sorted cs bs n xs ∧ Below w.heap.size w w' := by
  by_cases h : n = 0
  · subst h; exact merge_zero _ _ _ _ _ _
  · exact merge_any ab ao n ac bv cs bs w HL (by omega) hn HA HB

set_option maxRecDepth 100000 in
set_option maxHeartbeats 1000000 in
theorem popLaw_out (a0 : Option Addr) (len0 cap0 : Nat) (a1 : Option Addr) (len1 cap1 : Nat) (w : World) (b0 : len0 ≤ 9223372036854775807) (b1 : len1 ≤ 9223372036854775807)
    (hno : ¬ (len0 ≤ 65536 ∧ len1 ≤ 65536 ∧ 8 * len0 + 4 * len1 ≤ 1048576 ∧ len1 = len0 ∧ 0 < len0)) :
    Calls Try.prog 3 #[.slice a0 len0 cap0, .slice a1 len1 cap1] w fun e w' => e = .returned (.bool true) ∧ Below w.heap.size w w' := by
  go_enter Try.func3, Try.ntmps3
  go_wp2_with (go_at_call 8; refine (bytes8 _ _ _ _ _ _ _ b0 b1).mono ?_; rintro e w' ⟨⟨b, rfl⟩, rfl⟩)
  all_goals first
    | (exfalso; simp at *; omega)
    | (go_ret; exact ⟨rfl, Below.refl _ _⟩)

end Go.Proofs.Qxb6601127a
