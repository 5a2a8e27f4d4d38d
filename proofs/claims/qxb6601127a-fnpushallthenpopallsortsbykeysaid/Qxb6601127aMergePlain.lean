/-
  THE PLAIN LAW OF THE BOTTOM-UP MERGE SORT: lists and numbers; no Go in sight.
-/
import Derived.Test.Qxb6601127aLists
namespace Go.Proofs.Qxb6601127a
set_option linter.unusedSimpArgs false
set_option linter.unusedVariables false

/-- zzBefore, plainly: place i goes strictly before place j. -/
def bef (cs : List Int) (bs : Option (List Int)) (i j : Nat) : Bool :=
  if cs[i]?.getD 0 = cs[j]?.getD 0 then
    match bs with
    | none => false
    | some l => decide (l[i]?.getD 0 < l[j]?.getD 0)
  else decide (cs[i]?.getD 0 < cs[j]?.getD 0)

/-- place i may stand ahead of place j -/
def leq (cs : List Int) (bs : Option (List Int)) (i j : Nat) : Bool := !bef cs bs j i

/-- the second key -/
def key2 (bs : Option (List Int)) (i : Nat) : Int := match bs with | none => 0 | some l => l[i]?.getD 0

theorem leq_iff (cs : List Int) (bs : Option (List Int)) (i j : Nat) :
    leq cs bs i j = true ↔ (cs[i]?.getD 0 < cs[j]?.getD 0 ∨ (cs[i]?.getD 0 = cs[j]?.getD 0 ∧ key2 bs i ≤ key2 bs j)) := by
  unfold leq bef key2
  by_cases h : cs[j]?.getD 0 = cs[i]?.getD 0
  · cases bs <;> simp [h]
  · simp [h]; omega

theorem leq_trans (cs : List Int) (bs : Option (List Int)) (i j k : Nat) (h1 : leq cs bs i j = true) (h2 : leq cs bs j k = true) : leq cs bs i k = true := by
  rw [leq_iff] at *; omega

theorem leq_total (cs : List Int) (bs : Option (List Int)) (i j : Nat) : (leq cs bs i j || leq cs bs j i) = true := by
  rw [Bool.or_eq_true, leq_iff, leq_iff]; omega

/-- xs from place i up to place m -/
def seg (xs : List Nat) (i m : Nat) : List Nat := (xs.take m).drop i

theorem seg_cons (xs : List Nat) (i m : Nat) (h1 : i < m) (h2 : m ≤ xs.length) : seg xs i m = xs[i]?.getD 0 :: seg xs (i + 1) m := by
  unfold seg
  rw [List.drop_eq_getElem_cons (by simp; omega)]
  simp [show i < xs.length by omega]

theorem seg_nil (xs : List Nat) (m : Nat) : seg xs m m = [] := by
  unfold seg; simp

theorem seg_length (xs : List Nat) (i m : Nat) (h2 : m ≤ xs.length) : (seg xs i m).length = m - i := by
  unfold seg; simp; omega

theorem seg_get (xs : List Nat) (i m p : Nat) (h : p < m - i) (h2 : m ≤ xs.length) : (seg xs i m)[p]? = xs[i + p]? := by
  unfold seg; rw [List.getElem?_drop, List.getElem?_take]; simp; omega

/-- every run of w places is in order -/
def Runs (le : Nat → Nat → Bool) (w : Nat) (xs : List Nat) : Prop := ∀ i j, i < j → j < xs.length → i / w = j / w → le (xs[i]?.getD 0) (xs[j]?.getD 0) = true

theorem runs_one (le : Nat → Nat → Bool) (xs : List Nat) : Runs le 1 xs := by
  intro i j h1 h2 h3
  simp at h3; omega

theorem runs_all {le : Nat → Nat → Bool} {w : Nat} {xs : List Nat} (h : Runs le w xs) (hw : xs.length ≤ w) : ∀ i j, i < j → j < xs.length → le (xs[i]?.getD 0) (xs[j]?.getD 0) = true := by
  intro i j h1 h2
  exact h i j h1 h2 (by rw [Nat.div_eq_of_lt (by omega), Nat.div_eq_of_lt (by omega)])

theorem runs_append {le : Nat → Nat → Bool} {W t : Nat} {P M : List Nat} (hW : 0 < W) (hP : Runs le W P) (hl : P.length = W * t) (hM : M.Pairwise (fun a b => le a b = true)) : Runs le W (P ++ M) := by
  intro i j h1 h2 h3
  rw [List.length_append] at h2
  by_cases hj : j < P.length
  · rw [List.getElem?_append_left hj, List.getElem?_append_left (by omega)]
    exact hP i j h1 hj h3
  · by_cases hi : i < P.length
    · exfalso
      have a1 : i / W < t := by rw [Nat.div_lt_iff_lt_mul hW, Nat.mul_comm]; omega
      have a2 : t ≤ j / W := by rw [Nat.le_div_iff_mul_le hW, Nat.mul_comm]; omega
      omega
    · rw [List.getElem?_append_right (by omega), List.getElem?_append_right (by omega)]
      have b1 : i - P.length < M.length := by omega
      have b2 : j - P.length < M.length := by omega
      simp only [List.getElem?_eq_getElem b1, List.getElem?_eq_getElem b2, Option.getD_some]
      exact List.pairwise_iff_getElem.1 hM _ _ b1 b2 (by omega)

theorem seg_pairwise {le : Nat → Nat → Bool} {w : Nat} {xs : List Nat} (h : Runs le w xs) (t lo mid : Nat) (hw : 0 < w) (hlo : lo = w * t) (h1 : mid ≤ lo + w) (h2 : mid ≤ xs.length) :
    (seg xs lo mid).Pairwise (fun a b => le a b = true) := by
  rw [List.pairwise_iff_getElem]
  intro i j hi hj hij
  have hj' := hj
  rw [seg_length _ _ _ h2] at hj'
  have e1 := seg_get xs lo mid i (by omega) h2
  have e2 := seg_get xs lo mid j (by omega) h2
  have f1 : (seg xs lo mid)[i] = xs[lo + i]?.getD 0 := by
    rw [← e1, List.getElem?_eq_getElem hi]; rfl
  have f2 : (seg xs lo mid)[j] = xs[lo + j]?.getD 0 := by
    rw [← e2, List.getElem?_eq_getElem hj]; rfl
  rw [f1, f2]
  refine h _ _ (by omega) (by omega) ?_
  subst hlo
  rw [Nat.mul_add_div hw, Nat.mul_add_div hw, Nat.div_eq_of_lt (by omega), Nat.div_eq_of_lt (by omega)]

/-- what the three inner loops keep -/
def MInv (le : Nat → Nat → Bool) (xs : List Nat) (mid hi : Nat) (R : List Nat) (i j : Nat) (ys : List Nat) : Prop :=
  ys.take (i + j - mid) ++ List.merge (seg xs i mid) (seg xs j hi) le = R

theorem minv_left {le : Nat → Nat → Bool} {xs : List Nat} {mid hi : Nat} {R : List Nat} {i j : Nat} {ys : List Nat} (h : MInv le xs mid hi R i j ys) (hi1 : i < mid) (hj0 : mid ≤ j) (hj1 : j ≤ hi) (hh : hi ≤ xs.length) (hy : ys.length = xs.length)
    (hle : j < hi → le (xs[i]?.getD 0) (xs[j]?.getD 0) = true) : MInv le xs mid hi R (i + 1) j (ys.set (i + j - mid) (xs[i]?.getD 0)) := by
  unfold MInv at *
  rw [show i + 1 + j - mid = (i + j - mid) + 1 by omega, take_set_succ _ _ _ (by omega), ← h, seg_cons xs i mid hi1 (by omega)]
  rw [List.append_assoc]
  congr 1
  by_cases hj : j < hi
  · rw [seg_cons xs j hi hj hh, List.cons_merge_cons, if_pos (hle hj)]; rfl
  · have : j = hi := by omega
    subst this
    rw [seg_nil]; simp

theorem minv_right {le : Nat → Nat → Bool} {xs : List Nat} {mid hi : Nat} {R : List Nat} {i j : Nat} {ys : List Nat} (h : MInv le xs mid hi R i j ys) (hi1 : i ≤ mid) (hj0 : mid ≤ j) (hj1 : j < hi) (hh : hi ≤ xs.length) (hy : ys.length = xs.length)
    (hle : i < mid → le (xs[i]?.getD 0) (xs[j]?.getD 0) = false) : MInv le xs mid hi R i (j + 1) (ys.set (i + j - mid) (xs[j]?.getD 0)) := by
  unfold MInv at *
  rw [show i + (j + 1) - mid = (i + j - mid) + 1 by omega, take_set_succ _ _ _ (by omega), ← h, seg_cons xs j hi hj1 (by omega)]
  rw [List.append_assoc]
  congr 1
  by_cases hi' : i < mid
  · rw [seg_cons xs i mid hi' (by omega), List.cons_merge_cons, if_neg (by rw [hle hi']; simp)]; rfl
  · have : i = mid := by omega
    subst this
    rw [seg_nil]; simp

/-- what the middle loop keeps: the first L places -/
def Pass (le : Nat → Nat → Bool) (W : Nat) (xs ys : List Nat) (L : Nat) : Prop := Runs le W (ys.take L) ∧ (ys.take L).Perm (xs.take L)

theorem pass_zero (le : Nat → Nat → Bool) (W : Nat) (xs ys : List Nat) : Pass le W xs ys 0 := by
  refine ⟨?_, by simp⟩
  intro i j h1 h2; simp at h2

/-- the inner loops' goal -/
def goal (le : Nat → Nat → Bool) (xs ys : List Nat) (lo mid hi : Nat) : List Nat := ys.take lo ++ List.merge (seg xs lo mid) (seg xs mid hi) le

theorem minv_start (le : Nat → Nat → Bool) (xs ys : List Nat) (lo mid hi : Nat) : MInv le xs mid hi (goal le xs ys lo mid hi) lo mid ys := by
  unfold MInv goal; simp

theorem minv_end {le : Nat → Nat → Bool} {xs : List Nat} {mid hi : Nat} {R : List Nat} {ys : List Nat} (h : MInv le xs mid hi R mid hi ys) : ys.take hi = R := by
  unfold MInv at h
  rw [seg_nil, seg_nil] at h
  simpa using h

theorem seg_split (xs : List Nat) (lo mid hi : Nat) (h1 : lo ≤ mid) (h2 : mid ≤ hi) : xs.take lo ++ (seg xs lo mid ++ seg xs mid hi) = xs.take hi := by
  have e1 : xs.take mid = xs.take lo ++ seg xs lo mid := by
    unfold seg
    have : xs.take lo = (xs.take mid).take lo := by rw [List.take_take, Nat.min_eq_left h1]
    rw [this, List.take_append_drop]
  have e2 : xs.take hi = xs.take mid ++ seg xs mid hi := by
    unfold seg
    have : xs.take mid = (xs.take hi).take mid := by rw [List.take_take, Nat.min_eq_left h2]
    rw [this, List.take_append_drop]
  rw [e2, e1, List.append_assoc]

theorem pass_step {cs : List Int} {bs : Option (List Int)} {w t lo mid hi n : Nat} {xs ys ys' : List Nat} (hw : 0 < w) (hr : Runs (leq cs bs) w xs) (hx : xs.length = n) (hy : ys.length = n)
    (hlo : lo = 2 * w * t) (hln : lo ≤ n) (hmid : mid = min (lo + w) n) (hhi : hi = min (lo + 2 * w) n) (hp : Pass (leq cs bs) (2 * w) xs ys lo) (he : ys'.take hi = goal (leq cs bs) xs ys lo mid hi) : Pass (leq cs bs) (2 * w) xs ys' hi := by
  have hA := seg_pairwise hr (2 * t) lo mid hw (by rw [hlo, Nat.mul_comm 2 w, Nat.mul_assoc]) (by omega) (by omega)
  have hB : (seg xs mid hi).Pairwise (fun a b => leq cs bs a b = true) := by
    by_cases hm : mid = lo + w
    · exact seg_pairwise hr (2 * t + 1) mid hi hw (by rw [hm, hlo, Nat.mul_add, Nat.mul_comm 2 w, Nat.mul_assoc, Nat.mul_one]) (by omega) (by omega)
    · have : mid = hi := by omega
      rw [this, seg_nil]; exact List.Pairwise.nil
  have hM := List.pairwise_merge (leq_trans cs bs) (leq_total cs bs) (seg xs lo mid) (seg xs mid hi) hA hB
  unfold Pass
  rw [he]
  unfold goal
  refine ⟨runs_append (t := t) (by omega) hp.1 (by rw [List.length_take]; omega) hM, ?_⟩
  have h1 := List.merge_perm_append (le := leq cs bs) (xs := seg xs lo mid) (ys := seg xs mid hi)
  have h2 := seg_split xs lo mid hi (by omega) (by omega)
  rw [← h2]
  exact hp.2.append h1

theorem pass_end {le : Nat → Nat → Bool} {W n L : Nat} {xs ys : List Nat} (h : Pass le W xs ys L) (hx : xs.length = n) (hy : ys.length = n) (hL : n ≤ L) : Runs le W ys ∧ ys.Perm xs := by
  have h1 := h.1
  have h2 := h.2
  rw [List.take_of_length_le (by omega)] at h1 h2
  rw [List.take_of_length_le (by omega)] at h2
  exact ⟨h1, h2⟩

theorem perm_range_lt {n : Nat} {xs : List Nat} (h : xs.Perm (List.range n)) (i : Nat) (hi : i < n) : xs[i]?.getD 0 < n := by
  have hl := h.length_eq
  rw [List.length_range] at hl
  have : xs[i]?.getD 0 ∈ xs := by
    rw [List.getElem?_eq_getElem (by omega)]; simp
  have := h.mem_iff.1 this
  simpa using this

/-- what zzMergeOrder's answer is good for -/
structure Sorted (cs : List Int) (bs : Option (List Int)) (n : Nat) (xs : List Nat) : Prop where
  perm : xs.Perm (List.range n)
  inOrder : ∀ i j, i < j → j < n → leq cs bs (xs[i]?.getD 0) (xs[j]?.getD 0) = true

theorem Sorted.length {cs : List Int} {bs : Option (List Int)} {n : Nat} {xs : List Nat} (h : Sorted cs bs n xs) : xs.length = n := by
  have := h.perm.length_eq; simpa using this

theorem sorted_of {cs : List Int} {bs : Option (List Int)} {n w : Nat} {xs : List Nat} (hp : xs.Perm (List.range n)) (hr : Runs (leq cs bs) w xs) (hw : n ≤ w) : Sorted cs bs n xs := by
  have hl := hp.length_eq
  rw [List.length_range] at hl
  exact ⟨hp, fun i j h1 h2 => runs_all hr (by omega) i j h1 (by omega)⟩

end Go.Proofs.Qxb6601127a
