/-
  THE PLAIN LAW OF push: no Go in sight.
-/
import Derived.Test.Qxb6601127aHeapPlain
namespace Go.Proofs.Qxb6601127a
set_option linter.unusedSimpArgs false
set_option linter.unusedVariables false

/-- what push does to the entries -/
structure Pushed (es : List (Int × Int)) (x : Int × Int) (es' : List (Int × Int)) : Prop where
  perm : es'.Perm (es ++ [x])
  heap : HeapE es → HeapE es'

/-- what push keeps while the new entry rises -/
structure Rise (es : List (Int × Int)) (x : Int × Int) (hs : List (Int × Int)) (i : Nat) : Prop where
  len : hs.length = es.length + 1
  lt : i < es.length + 1
  perm : (hs.set i x).Perm (es ++ [x])
  heap : HeapE es → (∀ k, 1 ≤ k → k < es.length + 1 → k ≠ i → (k - 1) / 2 ≠ i → kk hs ((k - 1) / 2) ≤ kk hs k) ∧
    (∀ k, 1 ≤ k → k < es.length + 1 → (k - 1) / 2 = i → x.1 ≤ kk hs k) ∧
    (1 ≤ i → ∀ k, 1 ≤ k → k < es.length + 1 → (k - 1) / 2 = i → kk hs ((i - 1) / 2) ≤ kk hs k)

theorem kk_append (es fs : List (Int × Int)) (k : Nat) (h : k < es.length) : kk (es ++ fs) k = kk es k := by
  unfold kk; rw [List.getElem?_append_left h]

theorem rise_start (es : List (Int × Int)) (x z : Int × Int) : Rise es x (es ++ [z]) es.length := by
  refine ⟨by simp, by omega, ?_, fun hh => ⟨fun k h1 h2 h3 h4 => ?_, fun k h1 h2 h3 => by omega, fun h0 k h1 h2 h3 => by omega⟩⟩
  · rw [List.set_append_right _ _ (Nat.le_refl _)]; simp
  · rw [kk_append _ _ _ (by omega), kk_append _ _ _ (by omega)]
    exact hh k h1 (by omega)

theorem rise_step {es : List (Int × Int)} {x : Int × Int} {hs : List (Int × Int)} {i : Nat} (h : Rise es x hs i) (hi : 1 ≤ i) (hlt : x.1 < kk hs ((i - 1) / 2)) :
    Rise es x (hs.set i (kk hs ((i - 1) / 2), cc hs ((i - 1) / 2))) ((i - 1) / 2) := by
  have hl := h.len
  have hi' := h.lt
  generalize hp : (i - 1) / 2 = p at hlt ⊢
  refine ⟨by simpa using hl, by omega, (hole_perm hs i p x (by omega) (by omega) (by omega)).trans h.perm, fun hh => ?_⟩
  obtain ⟨h1, h2, h3⟩ := h.heap hh
  refine ⟨fun k a1 a2 a3 a4 => ?_, fun k a1 a2 a3 => ?_, fun a0 k a1 a2 a3 => ?_⟩
  · by_cases e1 : i = k
    · omega
    · rw [kk_set_ne _ _ _ _ e1]
      by_cases e2 : i = (k - 1) / 2
      · rw [← e2, kk_set_same _ _ _ (by omega)]
        have := h3 hi k a1 a2 e2.symm
        rw [hp] at this
        exact this
      · rw [kk_set_ne _ _ _ _ e2]
        exact h1 k a1 a2 (fun e => e1 e.symm) (fun e => e2 e.symm)
  · by_cases e1 : i = k
    · subst e1
      rw [kk_set_same _ _ _ (by omega)]
      show _ ≤ kk hs p
      omega
    · rw [kk_set_ne _ _ _ _ e1]
      have := h1 k a1 a2 (fun e => e1 e.symm) (by omega)
      rw [a3] at this
      omega
  · have hpp := h1 p a0 (by omega) (by omega) (by omega)
    rw [kk_set_ne _ _ _ _ (by omega)]
    by_cases e1 : i = k
    · subst e1
      rw [kk_set_same _ _ _ (by omega)]
      exact hpp
    · rw [kk_set_ne _ _ _ _ e1]
      have := h1 k a1 a2 (fun e => e1 e.symm) (by omega)
      rw [a3] at this
      omega

theorem rise_end {es : List (Int × Int)} {x : Int × Int} {hs : List (Int × Int)} {i : Nat} (h : Rise es x hs i) (hle : i = 0 ∨ kk hs ((i - 1) / 2) ≤ x.1) : Pushed es x (hs.set i x) := by
  have hl := h.len
  have hi' := h.lt
  refine ⟨h.perm, fun hh k a1 a2 => ?_⟩
  simp at a2
  obtain ⟨h1, h2, h3⟩ := h.heap hh
  by_cases e1 : i = k
  · subst e1
    rw [kk_set_same _ _ _ (by omega), kk_set_ne _ _ _ _ (by omega)]
    omega
  · rw [kk_set_ne _ _ _ _ e1]
    by_cases e2 : i = (k - 1) / 2
    · rw [← e2, kk_set_same _ _ _ (by omega)]
      exact h2 k a1 (by omega) e2.symm
    · rw [kk_set_ne _ _ _ _ e2]
      exact h1 k a1 (by omega) (fun e => e1 e.symm) (fun e => e2 e.symm)

theorem Pushed.length {es es' : List (Int × Int)} {x : Int × Int} (h : Pushed es x es') : es'.length = es.length + 1 := by
  rw [h.perm.length_eq]; simp

/-- the top of a heap is its least key -/
theorem heap_top {hs : List (Int × Int)} (h : HeapE hs) : ∀ k, k < hs.length → kk hs 0 ≤ kk hs k := by
  intro k
  induction k using Nat.strongRecOn with
  | _ k ih =>
    intro hk
    by_cases e : k = 0
    · subst e; exact Int.le_refl _
    · have h1 := h k (by omega) hk
      have h2 := ih ((k - 1) / 2) (by omega) (by omega)
      omega

end Go.Proofs.Qxb6601127a
