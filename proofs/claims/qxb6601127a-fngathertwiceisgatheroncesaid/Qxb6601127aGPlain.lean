import Derived.Test.Qxb6601127aGRange
import Derived.Test.Qxb6601127aGL1
namespace Go.Proofs.Qxb6601127a
open Go.RowKit
set_option linter.unusedVariables false
set_option linter.unusedSimpArgs false

/-- the edges that start at n, in their order -/
def nodeE (ds : List Edge) (n : Nat) : List Edge := ds.filter (fun e => decide (e.1 = (n : Int)))

theorem nodeE_length (ds : List Edge) (n : Nat) : (nodeE ds n).length = cntE ds n := by
  unfold nodeE cntE; rw [List.countP_eq_length_filter]
theorem nodeE_append (ds es : List Edge) (n : Nat) : nodeE (ds ++ es) n = nodeE ds n ++ nodeE es n := by unfold nodeE; rw [List.filter_append]
theorem cntE_append (ds es : List Edge) (n : Nat) : cntE (ds ++ es) n = cntE ds n + cntE es n := by unfold cntE; rw [List.countP_append]

/-- the edges grouped by the node that they start at -/
def grouped (N : Nat) (ds : List Edge) : List Edge := (List.range N).flatMap (nodeE ds)

theorem grouped_succ (N : Nat) (ds : List Edge) : grouped (N + 1) ds = grouped N ds ++ nodeE ds N := by
  unfold grouped; rw [List.range_succ, List.flatMap_append]; simp

theorem grouped_length {M : Nat} {ds : List Edge} (h : Tails M ds) (N : Nat) : (grouped N ds).length = befE ds N := by
  induction N with
  | zero => rw [befE_zero h]; rfl
  | succ N ih => rw [grouped_succ, List.length_append, ih, nodeE_length, befE_succ]

theorem grouped_get {M : Nat} {ds : List Edge} (h : Tails M ds) (N n j : Nat) (hn : n < N) (hj : j < cntE ds n) : (grouped N ds)[befE ds n + j]? = (nodeE ds n)[j]? := by
  induction N with
  | zero => omega
  | succ N ih =>
    rw [grouped_succ]
    have hl := grouped_length h N
    by_cases e : n = N
    · subst e
      rw [List.getElem?_append_right (by omega)]
      congr 1; omega
    · have h1 : befE ds n + j < befE ds N := by
        have := befE_mono ds (n + 1) N (by omega)
        rw [befE_succ] at this; omega
      rw [List.getElem?_append_left (by omega)]
      exact ih (by omega)

theorem place_of {M : Nat} {ds : List Edge} (h : Tails M ds) (N q : Nat) (hq : q < befE ds N) : ∃ n j, n < N ∧ j < cntE ds n ∧ q = befE ds n + j := by
  induction N with
  | zero => rw [befE_zero h] at hq; omega
  | succ N ih =>
    rw [befE_succ] at hq
    by_cases h1 : q < befE ds N
    · obtain ⟨n, j, a, b, c⟩ := ih h1
      exact ⟨n, j, by omega, b, c⟩
    · exact ⟨N, q - befE ds N, by omega, by omega, by omega⟩

/-- the edges of pr lie in their places -/
def Placed (N : Nat) (E pr fl : List Edge) : Prop := ∀ n j e, n < N → (nodeE pr n)[j]? = some e → fl[befE E n + j]? = some e

theorem Placed.all {N : Nat} {E fl : List Edge} (h : Tails N E) (hp : ∀ n, n < N → nodeE E n = nodeE E n) (hP : Placed N E E fl) (hl : fl.length = E.length) : fl = grouped N E := by
  have hgl := grouped_length h N
  rw [befE_all h] at hgl
  apply List.ext_getElem?
  intro q
  by_cases hq : q < E.length
  · obtain ⟨n, j, a, b, c⟩ := place_of h N q (by rw [befE_all h]; exact hq)
    rw [← nodeE_length] at b
    have he := List.getElem?_eq_getElem b
    rw [c, hP n j _ a he, grouped_get h N n j a (by rw [← nodeE_length]; exact b), he]
  · rw [List.getElem?_eq_none (by omega), List.getElem?_eq_none (by omega)]

theorem Placed.congr {N : Nat} {E pr pr' fl : List Edge} (h : Placed N E pr fl) (he : ∀ n, n < N → nodeE pr' n = nodeE pr n) : Placed N E pr' fl :=
  fun n j e hn hj => h n j e hn (by rw [← he n hn]; exact hj)

/-- one more edge is laid in its place -/
theorem Placed.put {N : Nat} {E pr fl : List Edge} (h : Placed N E pr fl) {e : Edge} {m : Nat} (hm : e.1 = (m : Int)) (hmN : m < N) (hle : ∀ n, n < N → cntE (pr ++ [e]) n ≤ cntE E n) (hfl : befE E m + cntE pr m < fl.length) :
    Placed N E (pr ++ [e]) (fl.set (befE E m + cntE pr m) e) := by
  intro n j d hn hd
  have hlm := hle m hmN
  have hln := hle n hn
  rw [cntE_append] at hlm hln
  have hone : cntE [e] m = 1 := by unfold cntE; simp [hm]
  have hj : j < cntE (pr ++ [e]) n := by
    rw [← nodeE_length]
    rcases Nat.lt_or_ge j (nodeE (pr ++ [e]) n).length with h1 | h1
    · exact h1
    · rw [List.getElem?_eq_none h1] at hd; cases hd
  rw [cntE_append] at hj
  by_cases hnm : n = m
  · subst hnm
    rw [nodeE_append] at hd
    by_cases hj2 : j < cntE pr n
    · rw [List.getElem?_append_left (by rw [nodeE_length]; exact hj2)] at hd
      rw [List.getElem?_set_ne (by omega)]
      exact h n j d hn hd
    · rw [hone] at hj
      have hj3 : j = cntE pr n := by omega
      subst hj3
      rw [List.getElem?_append_right (by rw [nodeE_length]; exact Nat.le_refl _), nodeE_length] at hd
      have : nodeE [e] n = [e] := by unfold nodeE; simp [hm]
      rw [this] at hd; simp at hd; subst hd
      rw [List.getElem?_set_self hfl]
  · have h0 : cntE [e] n = 0 := by
      unfold cntE; simp [hm]; omega
    rw [h0] at hj hln
    rw [nodeE_append] at hd
    rw [List.getElem?_append_left (by rw [nodeE_length]; omega)] at hd
    have hdis : befE E m + cntE pr m ≠ befE E n + j := by
      rcases Nat.lt_or_gt_of_ne hnm with h1 | h1
      · have := befE_mono E (n + 1) m (by omega)
        rw [befE_succ] at this; omega
      · have := befE_mono E (m + 1) n (by omega)
        rw [befE_succ] at this; omega
    rw [List.getElem?_set_ne hdis]
    exact h n j d hn hd

theorem nodeE_grouped {N : Nat} {ds : List Edge} (n : Nat) (hn : n < N) : nodeE (grouped N ds) n = nodeE ds n := by
  have key : ∀ k, nodeE (grouped k ds) n = if n < k then nodeE ds n else [] := by
    intro k
    induction k with
    | zero => rfl
    | succ k ih =>
      rw [grouped_succ, nodeE_append, ih]
      by_cases h1 : n = k
      · subst h1
        rw [if_neg (by omega), if_pos (by omega)]
        unfold nodeE; rw [List.filter_filter]; simp
      · have h2 : nodeE (nodeE ds k) n = [] := by
          unfold nodeE; rw [List.filter_filter]
          rw [List.filter_eq_nil_iff]
          intro e he
          simp; omega
        rw [h2, List.append_nil]
        by_cases h3 : n < k
        · rw [if_pos h3, if_pos (by omega)]
        · rw [if_neg h3, if_neg (by omega)]
  rw [key, if_pos hn]

theorem befE_of_cnt {M : Nat} {ds es : List Edge} (hd : Tails M ds) (he : Tails M es) (h : ∀ n, n < M → cntE ds n = cntE es n) (n : Nat) (hn : n ≤ M) : befE ds n = befE es n := by
  induction n with
  | zero => rw [befE_zero hd, befE_zero he]
  | succ n ih => rw [befE_succ, befE_succ, ih (by omega), h n (by omega)]

theorem grouped_tails {N : Nat} {ds : List Edge} (h : Tails N ds) : Tails N (grouped N ds) := by
  intro e he
  unfold grouped at he
  obtain ⟨n, hn, h2⟩ := List.mem_flatMap.1 he
  exact h e (List.mem_filter.1 h2).1

/-- grouping twice is grouping once -/
theorem grouped_twice {N : Nat} {ds : List Edge} (h : Tails N ds) : grouped N (grouped N ds) = grouped N ds := by
  have : ∀ n ∈ List.range N, nodeE (grouped N ds) n = nodeE ds n := fun n hn => nodeE_grouped n (List.mem_range.1 hn)
  show (List.range N).flatMap (nodeE (grouped N ds)) = (List.range N).flatMap (nodeE ds)
  rw [List.flatMap_def, List.flatMap_def, List.map_congr_left this]

theorem grouped_bef {N : Nat} {ds : List Edge} (h : Tails N ds) (n : Nat) (hn : n ≤ N) : befE (grouped N ds) n = befE ds n :=
  befE_of_cnt (grouped_tails h) h (fun m hm => by rw [← nodeE_length, ← nodeE_length, nodeE_grouped m hm]) n hn

/-- the edges range by range -/
def rgAll (sh R : Nat) (ds : List Edge) : List Edge := (List.range R).flatMap (fun r => rgE sh r ds)

theorem rgAll_succ (sh R : Nat) (ds : List Edge) : rgAll sh (R + 1) ds = rgAll sh R ds ++ rgE sh R ds := by
  unfold rgAll; rw [List.range_succ, List.flatMap_append]; simp

theorem nodeE_rgE (sh r n : Nat) (ds : List Edge) : nodeE (rgE sh r ds) n = if n / 2 ^ sh = r then nodeE ds n else [] := by
  unfold nodeE rgE
  rw [List.filter_filter]
  by_cases h : n / 2 ^ sh = r
  · rw [if_pos h]
    apply List.filter_congr
    intro e he
    by_cases h1 : e.1 = (n : Int)
    · have : e.1.toNat = n := by omega
      simp [h1, h]
    · simp [h1]
  · rw [if_neg h, List.filter_eq_nil_iff]
    intro e he
    by_cases h1 : e.1 = (n : Int)
    · simp [h1, h]
    · simp [h1]

theorem nodeE_rgAll (sh R n : Nat) (ds : List Edge) : nodeE (rgAll sh R ds) n = if n / 2 ^ sh < R then nodeE ds n else [] := by
  induction R with
  | zero => rfl
  | succ R ih =>
    rw [rgAll_succ, nodeE_append, ih, nodeE_rgE]
    by_cases h : n / 2 ^ sh = R
    · rw [if_pos h, if_neg (by omega), if_pos (by omega)]; rfl
    · rw [if_neg h, List.append_nil]
      by_cases h2 : n / 2 ^ sh < R
      · rw [if_pos h2, if_pos (by omega)]
      · rw [if_neg h2, if_neg (by omega)]

theorem rgAll_mono (sh R r : Nat) (ds : List Edge) (h : r ≤ R) : ∃ rest, rgAll sh R ds = rgAll sh r ds ++ rest := by
  induction R with
  | zero => obtain rfl : r = 0 := by omega
            exact ⟨[], by simp⟩
  | succ R ih =>
    by_cases e : r = R + 1
    · subst e; exact ⟨[], by simp⟩
    · obtain ⟨rest, hr⟩ := ih (by omega)
      exact ⟨rest ++ rgE sh R ds, by rw [rgAll_succ, hr, List.append_assoc]⟩

end Go.Proofs.Qxb6601127a
