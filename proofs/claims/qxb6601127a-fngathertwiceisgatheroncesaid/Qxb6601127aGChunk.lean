import Derived.Test.Qxb6601127aGPlain
namespace Go.Proofs.Qxb6601127a
open Go.RowKit
set_option linter.unusedVariables false
set_option linter.unusedSimpArgs false

/-- the parts are the chunks of a row of T edges -/
def Chunked (T : Nat) (PL : List Part) : Prop := ∀ (i : Nat) (p : Part), PL[i]? = some p → p.es.length = min 512 (T - 512 * i)

theorem Chunked.take_len {T : Nat} {PL : List Part} (h : Chunked T PL) (k : Nat) (hk : k ≤ PL.length) : (flat (PL.take k)).length = min (512 * k) T := by
  induction k with
  | zero => simp [flat]
  | succ k ih =>
    have hp : PL[k]? = some PL[k] := List.getElem?_eq_getElem (by omega)
    rw [flat_take PL k _ hp, List.length_append, ih (by omega), h k _ hp]
    omega

theorem Chunked.len {T : Nat} {PL : List Part} (h : Chunked T PL) : (flat PL).length = min (512 * PL.length) T := by
  have := h.take_len PL.length (Nat.le_refl _)
  rwa [List.take_length] at this

theorem flat_split {PL : List Part} {i : Nat} {p : Part} (hp : PL[i]? = some p) : flat PL = flat (PL.take i) ++ (p.es ++ flat (PL.drop (i + 1))) := by
  rw [← List.append_assoc, ← flat_take PL i p hp]
  unfold flat; rw [← List.flatMap_append, List.take_append_drop]

/-- the part and the place of the edge at q -/
theorem Chunked.at {T : Nat} {PL : List Part} (h : Chunked T PL) {q : Nat} (hq : q < (flat PL).length) : ∃ p, PL[q / 512]? = some p ∧ q % 512 < p.es.length := by
  rw [h.len] at hq
  have hi : q / 512 < PL.length := by omega
  have hp : PL[q / 512]? = some PL[q / 512] := List.getElem?_eq_getElem hi
  refine ⟨_, hp, ?_⟩
  rw [h _ _ hp]; omega

theorem Chunked.set {T : Nat} {PL : List Part} (h : Chunked T PL) {q : Nat} (hq : q < (flat PL).length) {p : Part} (hp : PL[q / 512]? = some p) (e : Edge) :
    flat (PL.set (q / 512) ⟨p.b, p.cap, p.es.set (q % 512) e⟩) = (flat PL).set q e ∧ Chunked T (PL.set (q / 512) ⟨p.b, p.cap, p.es.set (q % 512) e⟩) := by
  have hq' := hq
  rw [h.len] at hq'
  have hi : q / 512 < PL.length := by omega
  have hl := h.take_len (q / 512) (by omega)
  constructor
  · have hp2 : (PL.set (q / 512) ⟨p.b, p.cap, p.es.set (q % 512) e⟩)[q / 512]? = some ⟨p.b, p.cap, p.es.set (q % 512) e⟩ := List.getElem?_set_self hi
    have hjl : q % 512 < p.es.length := by rw [h _ _ hp]; omega
    rw [flat_split hp2, flat_split hp, List.take_set_of_le (Nat.le_refl _), List.drop_set_of_lt (by omega)]
    rw [List.set_append_right _ _ (by omega), hl, show q - min (512 * (q / 512)) T = q % 512 by omega, List.set_append_left _ _ hjl]
  · intro i p' hi'
    by_cases e1 : i = q / 512
    · subst e1
      rw [List.getElem?_set_self hi] at hi'
      cases hi'
      simp only [List.length_set]
      exact h _ _ hp
    · rw [List.getElem?_set_ne (fun e => e1 e.symm)] at hi'
      exact h _ _ hi'

theorem Chunked.snoc {T : Nat} {PL : List Part} (h : Chunked T PL) {p : Part} (hp : p.es.length = min 512 (T - 512 * PL.length)) : Chunked T (PL ++ [p]) := by
  intro i q hq
  rw [List.getElem?_append] at hq
  split at hq
  · exact h i q hq
  next hj =>
    rcases hd : i - PL.length with _ | m
    · rw [hd] at hq; simp at hq; subst hq
      rw [show i = PL.length by omega]; exact hp
    · rw [hd] at hq; simp at hq

/-- longer rows keep what was laid -/
theorem Placed.grow {N : Nat} {E pr fl : List Edge} (h : Placed N E pr fl) (gs : List Edge) : Placed N E pr (fl ++ gs) := by
  intro n j e hn he
  have h1 := h n j e hn he
  have hlt : befE E n + j < fl.length := by
    rcases Nat.lt_or_ge (befE E n + j) fl.length with h2 | h2
    · exact h2
    · rw [List.getElem?_eq_none h2] at h1; cases h1
  rw [List.getElem?_append_left hlt]; exact h1

end Go.Proofs.Qxb6601127a
