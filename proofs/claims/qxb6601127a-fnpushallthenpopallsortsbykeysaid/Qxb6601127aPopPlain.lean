/-
  THE PLAIN LAW OF FnPopTakesTopAndKeepsTheRest: no Go in sight.
-/
import Derived.Test.Qxb6601127aMergePlain
import Derived.Test.Qxb6601127aHeapPlain
namespace Go.Proofs.Qxb6601127a
set_option linter.unusedSimpArgs false
set_option linter.unusedVariables false

/-- the pair at place i -/
def at2 (T : List (Int × Int)) (i : Nat) : Int × Int := T[i]?.getD (0, 0)

theorem map_at2 (T : List (Int × Int)) : (List.range T.length).map (at2 T) = T := by
  apply List.ext_getElem
  · simp
  · intro i h1 h2
    simp [at2, h2]

theorem fst_at2 (T : List (Int × Int)) (i : Nat) : (T.map Prod.fst)[i]?.getD 0 = (at2 T i).1 := by
  unfold at2
  rw [List.getElem?_map]
  cases T[i]? <;> rfl
theorem snd_at2 (T : List (Int × Int)) (i : Nat) : (T.map Prod.snd)[i]?.getD 0 = (at2 T i).2 := by
  unfold at2
  rw [List.getElem?_map]
  cases T[i]? <;> rfl

/-- pairs in the order of zzMergeOrder: the second component first -/
def lex (a b : Int × Int) : Prop := a.2 < b.2 ∨ (a.2 = b.2 ∧ a.1 ≤ b.1)

theorem leq_lex (T : List (Int × Int)) (i j : Nat) : leq (T.map Prod.snd) (some (T.map Prod.fst)) i j = true ↔ lex (at2 T i) (at2 T j) := by
  rw [leq_iff]
  unfold key2 lex
  simp only [fst_at2, snd_at2]

theorem sorted_row {T : List (Int × Int)} {n : Nat} {xs : List Nat} (hT : T.length = n) (hx : Sorted (T.map Prod.snd) (some (T.map Prod.fst)) n xs) :
    (xs.map (at2 T)).Perm T ∧ (xs.map (at2 T)).Pairwise lex := by
  constructor
  · have := hx.perm.map (at2 T)
    rw [← hT, map_at2] at this
    exact this
  · rw [List.pairwise_iff_getElem]
    intro i j hi hj hij
    simp at hi hj
    have hl := hx.length
    have := hx.inOrder i j hij (by omega)
    rw [leq_lex] at this
    simpa [hi, hj] using this

theorem sorted_same {T E : List (Int × Int)} {n : Nat} {xs ys : List Nat} (hT : T.length = n) (hE : E.Perm T) (hx : Sorted (T.map Prod.snd) (some (T.map Prod.fst)) n xs)
    (hy : Sorted (E.map Prod.snd) (some (E.map Prod.fst)) n ys) : ∀ i, i < n → at2 T (xs[i]?.getD 0) = at2 E (ys[i]?.getD 0) := by
  obtain ⟨p1, q1⟩ := sorted_row hT hx
  obtain ⟨p2, q2⟩ := sorted_row (by rw [hE.length_eq, hT]) hy
  have e : xs.map (at2 T) = ys.map (at2 E) := by
    refine List.Perm.eq_of_pairwise ?_ q1 q2 (p1.trans (hE.symm.trans p2.symm))
    intro a b _ _ h1 h2
    unfold lex at h1 h2
    obtain ⟨a1, a2⟩ := a
    obtain ⟨b1, b2⟩ := b
    simp only [Prod.mk.injEq] at *
    omega
  intro i hi
  have hl1 := hx.length
  have hl2 := hy.length
  have := congrArg (fun l => l[i]?) e
  simp only [List.getElem?_map] at this
  rw [List.getElem?_eq_getElem (by omega), List.getElem?_eq_getElem (by omega)] at this
  simp only [Option.map_some, Option.some.injEq] at this
  rw [List.getElem?_eq_getElem (by omega), List.getElem?_eq_getElem (by omega)]
  exact this

theorem zip_tail (keys comps : List Int) : (keys.zip comps).tail = (keys.drop 1).zip (comps.drop 1) := by
  cases keys <;> cases comps <;> simp

/-- what the law's loop finds at each place -/
theorem pop_same {keys comps : List Int} {es' : List (Int × Int)} {n : Nat} {xs ys : List Nat} (hk : keys.length = n + 1) (hc : comps.length = n + 1) (hp : Popped (keys.zip comps) es')
    (hx : Sorted (comps.drop 1) (some (keys.drop 1)) n xs) (hy : Sorted (es'.map Prod.snd) (some (es'.map Prod.fst)) n ys) (i : Nat) (hi : i < n) :
    comps[xs[i]?.getD 0 + 1]?.getD 0 = (es'.map Prod.snd)[ys[i]?.getD 0]?.getD 0 ∧ keys[xs[i]?.getD 0 + 1]?.getD 0 = (es'.map Prod.fst)[ys[i]?.getD 0]?.getD 0 := by
  have e1 : ((keys.zip comps).tail).map Prod.fst = keys.drop 1 := by rw [zip_tail, List.map_fst_zip]; simp; omega
  have e2 : ((keys.zip comps).tail).map Prod.snd = comps.drop 1 := by rw [zip_tail, List.map_snd_zip]; simp; omega
  rw [← e1, ← e2] at hx
  have h := sorted_same (by rw [List.length_tail, List.length_zip]; omega) hp.perm hx hy i hi
  rw [fst_at2, snd_at2, ← h, ← fst_at2, ← snd_at2, e1, e2]
  simp [Nat.add_comm 1]

theorem heap_of_isHp {keys comps : List Int} {n : Nat} (hk : keys.length = n) (hc : comps.length = n) (h : isHp keys = true) : HeapE (keys.zip comps) := by
  rw [isHp_iff] at h
  intro k h1 h2
  rw [List.length_zip] at h2
  have := h k (by omega)
  have e : ∀ j, j < n → kk (keys.zip comps) j = keys[j]?.getD 0 := by
    intro j hj
    unfold kk
    rw [List.getElem?_eq_getElem (by rw [List.length_zip]; omega), List.getElem_zip]
    simp [show j < keys.length by omega]
  rw [e _ (by omega), e _ (by omega)]
  exact this

theorem isHp_of_heap {es : List (Int × Int)} (h : HeapE es) : isHp (es.map Prod.fst) = true := by
  rw [isHp_iff]
  intro i hi
  simp at hi
  rw [fst_at2, fst_at2]
  by_cases e : i = 0
  · subst e; simp
  · exact h i (by omega) hi

theorem pop_heap {keys comps : List Int} {es' : List (Int × Int)} {n : Nat} (hk : keys.length = n) (hc : comps.length = n) (hp : Popped (keys.zip comps) es') (h : isHp keys = true) : isHp (es'.map Prod.fst) = true :=
  isHp_of_heap (hp.heap (heap_of_isHp hk hc h))

end Go.Proofs.Qxb6601127a
