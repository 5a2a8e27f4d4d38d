/-
  PLAIN LISTS: no Go in sight.
-/
namespace Go.Proofs.Qxb6601127a
set_option linter.unusedSimpArgs false

theorem take_set_succ {α : Type} (ys : List α) (k : Nat) (v : α) (h : k < ys.length) : (ys.set k v).take (k + 1) = ys.take k ++ [v] := by
  rw [List.take_succ_eq_append_getElem (by simpa using h), List.take_set_of_le (Nat.le_refl k)]
  simp

theorem take_succ_getD {α : Type} (zs : List α) (k : Nat) (d : α) (h : k < zs.length) : zs.take (k + 1) = zs.take k ++ [zs[k]?.getD d] := by
  rw [List.take_succ_eq_append_getElem h]; simp [h]

theorem take_fill {α : Type} {ys zs : List α} {k : Nat} {d : α} (h1 : k < ys.length) (h2 : k < zs.length) (h : ys.take k = zs.take k) : (ys.set k (zs[k]?.getD d)).take (k + 1) = zs.take (k + 1) := by
  rw [take_set_succ _ _ _ h1, take_succ_getD zs k d h2, h]

end Go.Proofs.Qxb6601127a
