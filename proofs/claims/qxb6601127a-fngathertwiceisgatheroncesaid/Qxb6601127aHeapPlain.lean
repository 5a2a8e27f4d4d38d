/-
  THE PLAIN LAW OF THE BINARY HEAP: lists and numbers; no Go in sight.
-/
import Derived.Test.Qxb6601127aLists
namespace Go.Proofs.Qxb6601127a
set_option linter.unusedSimpArgs false
set_option linter.unusedVariables false

/-- zzIsHeap, plainly -/
def isHp (zs : List Int) : Bool := (List.range zs.length).all fun i => decide (zs[(i - 1) / 2]?.getD 0 ≤ zs[i]?.getD 0)

theorem isHp_iff (zs : List Int) : isHp zs = true ↔ ∀ i, i < zs.length → zs[(i - 1) / 2]?.getD 0 ≤ zs[i]?.getD 0 := by
  unfold isHp; simp

theorem isHp_false (zs : List Int) (i : Nat) (h : i < zs.length) (hb : ¬ zs[(i - 1) / 2]?.getD 0 ≤ zs[i]?.getD 0) : isHp zs = false := by
  rw [Bool.eq_false_iff]
  intro h'
  exact hb ((isHp_iff zs).1 h' i h)

/-- the key at place i -/
def kk (es : List (Int × Int)) (i : Nat) : Int := (es[i]?.getD (0, 0)).1
/-- the component at place i -/
def cc (es : List (Int × Int)) (i : Nat) : Int := (es[i]?.getD (0, 0)).2

/-- the entries' keys stand in heap order -/
def HeapE (hs : List (Int × Int)) : Prop := ∀ k, 1 ≤ k → k < hs.length → kk hs ((k - 1) / 2) ≤ kk hs k

theorem kk_set_same (hs : List (Int × Int)) (i : Nat) (x : Int × Int) (h : i < hs.length) : kk (hs.set i x) i = x.1 := by
  simp [kk, h]
theorem kk_set_ne (hs : List (Int × Int)) (i j : Nat) (x : Int × Int) (h : i ≠ j) : kk (hs.set i x) j = kk hs j := by
  simp [kk, h]
theorem kk_take (hs : List (Int × Int)) (n j : Nat) (h : j < n) : kk (hs.take n) j = kk hs j := by
  simp [kk, h]

theorem ent_eq (hs : List (Int × Int)) (i : Nat) (h : i < hs.length) : (kk hs i, cc hs i) = hs[i] := by
  simp [kk, cc, h]

/-- an exchange of places, as the heap makes it: the hole moves from i to j -/
theorem hole_perm (hs : List (Int × Int)) (i j : Nat) (x : Int × Int) (hi : i < hs.length) (hj : j < hs.length) (hne : i ≠ j) :
    ((hs.set i (kk hs j, cc hs j)).set j x).Perm (hs.set i x) := by
  have h := List.set_set_perm (as := hs.set i x) (i := i) (j := j) (by simpa using hi) (by simpa using hj)
  rw [List.set_set, List.getElem_set_self, List.getElem_set_ne hne] at h
  rw [ent_eq hs j hj]
  exact h

/-- what pop keeps while the last entry sinks -/
structure Sink (es : List (Int × Int)) (n : Nat) (last : Int × Int) (hs : List (Int × Int)) (i : Nat) : Prop where
  len : hs.length = n
  lt : i < n
  perm : (hs.set i last).Perm es.tail
  heap : HeapE es → HeapE hs ∧ (i = 0 ∨ kk hs ((i - 1) / 2) ≤ last.1)

/-- what pop does to the entries -/
structure Popped (es es' : List (Int × Int)) : Prop where
  perm : es'.Perm es.tail
  heap : HeapE es → HeapE es'

theorem sink_start (es : List (Int × Int)) (n : Nat) (h : es.length = n + 1) (hn : 0 < n) : Sink es n (kk es n, cc es n) (es.take n) 0 := by
  refine ⟨by simp; omega, hn, ?_, fun hh => ⟨fun k h1 h2 => ?_, .inl rfl⟩⟩
  · obtain ⟨e, ds, l, rfl⟩ : ∃ e ds l, es = e :: (ds ++ [l]) := by
      match es, h with
      | e :: t, h =>
        have ht : t ≠ [] := by intro e'; subst e'; simp at h; omega
        exact ⟨e, t.dropLast, t.getLast ht, by rw [List.dropLast_concat_getLast]⟩
    simp at h
    subst h
    have e1 : (kk (e :: (ds ++ [l])) (ds.length + 1), cc (e :: (ds ++ [l])) (ds.length + 1)) = l := by
      simp [kk, cc]
    rw [e1]
    simp only [List.take_succ_cons, List.set_cons_zero, List.tail_cons]
    rw [List.take_append_of_le_length (Nat.le_refl _), List.take_length]
    exact (List.perm_append_comm (l₁ := [l]))
  · simp at h2
    rw [kk_take _ _ _ (by omega), kk_take _ _ _ (by omega)]
    exact hh k h1 (by omega)

theorem sink_step {es : List (Int × Int)} {n : Nat} {last : Int × Int} {hs : List (Int × Int)} {i : Nat} (h : Sink es n last hs i) (c : Nat) (hc : c = 2 * i + 1 ∨ c = 2 * i + 2) (hcn : c < n)
    (hmin : ∀ d, d = 2 * i + 1 ∨ d = 2 * i + 2 → d < n → kk hs c ≤ kk hs d) (hlt : kk hs c < last.1) : Sink es n last (hs.set i (kk hs c, cc hs c)) c := by
  have hl := h.len
  have hi := h.lt
  refine ⟨by simpa using hl, hcn, (hole_perm hs i c last (by omega) (by omega) (by omega)).trans h.perm, fun hh => ?_⟩
  obtain ⟨h1, h2⟩ := h.heap hh
  refine ⟨fun k hk1 hk2 => ?_, .inr ?_⟩
  · simp at hk2
    by_cases e1 : i = k
    · subst e1
      rw [kk_set_same _ _ _ (by omega), kk_set_ne _ _ _ _ (by omega)]
      have a1 := h1 i hk1 hk2
      have a2 := h1 c (by omega) (by omega)
      rw [show (c - 1) / 2 = i by omega] at a2
      show _ ≤ kk hs c
      omega
    · rw [kk_set_ne _ _ _ _ e1]
      by_cases e2 : i = (k - 1) / 2
      · rw [e2, kk_set_same _ _ _ (by omega)]
        exact hmin k (by omega) (by omega)
      · rw [kk_set_ne _ _ _ _ e2]
        exact h1 k hk1 hk2
  · rw [show (c - 1) / 2 = i by omega, kk_set_same _ _ _ (by omega)]
    show kk hs c ≤ _
    omega

theorem sink_end {es : List (Int × Int)} {n : Nat} {last : Int × Int} {hs : List (Int × Int)} {i : Nat} (h : Sink es n last hs i)
    (hmin : ∀ d, d = 2 * i + 1 ∨ d = 2 * i + 2 → d < n → last.1 ≤ kk hs d) : Popped es (hs.set i last) := by
  have hl := h.len
  have hi := h.lt
  refine ⟨h.perm, fun hh => ?_⟩
  obtain ⟨h1, h2⟩ := h.heap hh
  intro k hk1 hk2
  simp at hk2
  by_cases e1 : i = k
  · subst e1
    rw [kk_set_same _ _ _ (by omega), kk_set_ne _ _ _ _ (by omega)]
    omega
  · rw [kk_set_ne _ _ _ _ e1]
    by_cases e2 : i = (k - 1) / 2
    · rw [e2, kk_set_same _ _ _ (by omega)]
      exact hmin k (by omega) (by omega)
    · rw [kk_set_ne _ _ _ _ e2]
      exact h1 k hk1 hk2

theorem popped_one (es : List (Int × Int)) (h : es.length = 1) : Popped es [] := by
  match es, h with
  | [e], _ => exact ⟨List.Perm.refl _, fun _ k h1 h2 => by simp at h2⟩

end Go.Proofs.Qxb6601127a
