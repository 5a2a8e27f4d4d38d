/-
  THE PLAIN LAWS OF THE WALKER: bytes are integers, texts are lists; no Go in sight.
-/
namespace Go.Proofs.Qxb6601149a
set_option linter.unusedSimpArgs false
set_option linter.unusedVariables false

/-- THE WALKER, one byte at a time. md: 0 outside every string, 1 in a string, 2 just after a backslash in a string. -/
def run (stop : Bool) : Nat → Nat → Int → Int → List Int → Int × Int
  | _, _, _, deep, [] => (-1, deep)
  | i, md, dep, deep, c :: cs =>
    if md = 2 then run stop (i + 1) 1 dep deep cs
    else if md = 1 then
      if c = 92 then run stop (i + 1) 2 dep deep cs
      else if c = 34 then (if stop = true ∧ dep = 0 then ((i : Int) + 1, deep) else run stop (i + 1) 0 dep deep cs)
      else run stop (i + 1) 1 dep deep cs
    else
      if c = 34 then run stop (i + 1) 1 dep deep cs
      else if c = 123 ∨ c = 91 then run stop (i + 1) 0 (dep + 1) (max deep (dep + 1)) cs
      else if c = 125 ∨ c = 93 then (if stop = true ∧ dep - 1 = 0 then ((i : Int) + 1, deep) else run stop (i + 1) 0 (dep - 1) deep cs)
      else run stop (i + 1) 0 dep deep cs

theorem run_nil (stop : Bool) (i md : Nat) (dep deep : Int) : run stop i md dep deep [] = (-1, deep) := by unfold run; rfl

/-- where the string has ended unclosed, the rest is nothing, whatever the place -/
theorem run_past (stop : Bool) (i j md md' : Nat) (dep deep : Int) : run stop i md dep deep [] = run stop j md' dep deep [] := by rw [run_nil, run_nil]

/-! ### the two-pass model -/

/-- the marks: 0 nothing, 1 an opening bracket, 2 a closing one, 3 the quotation mark that closes a string -/
def marks : Nat → List Int → List Int
  | _, [] => []
  | md, c :: cs =>
    if md = 2 then 0 :: marks 1 cs
    else if md = 1 then
      if c = 92 then 0 :: marks 2 cs
      else if c = 34 then 3 :: marks 0 cs
      else 0 :: marks 1 cs
    else
      if c = 34 then 0 :: marks 1 cs
      else if c = 123 ∨ c = 91 then 1 :: marks 0 cs
      else if c = 125 ∨ c = 93 then 2 :: marks 0 cs
      else 0 :: marks 0 cs

/-- the second pass -/
def run2 (stop : Bool) : Nat → Int → Int → List Int → Int × Int
  | _, _, deep, [] => (-1, deep)
  | i, dep, deep, m :: ms =>
    if m = 1 then run2 stop (i + 1) (dep + 1) (if deep < dep + 1 then dep + 1 else deep) ms
    else if m = 2 then (if stop = true ∧ dep - 1 = 0 then ((i : Int) + 1, deep) else run2 stop (i + 1) (dep - 1) deep ms)
    else if m = 3 then (if stop = true ∧ dep = 0 then ((i : Int) + 1, deep) else run2 stop (i + 1) dep deep ms)
    else run2 stop (i + 1) dep deep ms

theorem run2_marks (stop : Bool) (cs : List Int) : ∀ (i md : Nat) (dep deep : Int), run2 stop i dep deep (marks md cs) = run stop i md dep deep cs := by
  induction cs with
  | nil => intro i md dep deep; simp [marks, run2, run]
  | cons c cs ih =>
    intro i md dep deep
    unfold marks run
    by_cases h2 : md = 2
    · simp [h2, run2, ih]
    · by_cases h1 : md = 1
      · by_cases c1 : c = 92
        · simp [h1, c1, run2, ih]
        · by_cases c2 : c = 34
          · simp [h1, c2, run2, ih]
          · simp [h1, c1, c2, run2, ih]
      · by_cases c2 : c = 34
        · simp [h2, h1, c2, run2, ih]
        · by_cases c3 : c = 123 ∨ c = 91
          · have e : (if deep < dep + 1 then dep + 1 else deep) = max deep (dep + 1) := by split <;> omega
            simp [h2, h1, c2, c3, run2, ih, e]
          · by_cases c4 : c = 125 ∨ c = 93
            · simp [h2, h1, c2, c3, c4, run2, ih]
            · simp [h2, h1, c2, c3, c4, run2, ih]

theorem marks_length (cs : List Int) : ∀ md, (marks md cs).length = cs.length := by
  induction cs with
  | nil => intro md; rfl
  | cons c cs ih =>
    intro md
    unfold marks
    repeat' split
    all_goals simp [ih]

/-! ### with and without stop -/

theorem run_false_fst (cs : List Int) : ∀ (i md : Nat) (dep deep : Int), (run false i md dep deep cs).1 = -1 := by
  induction cs with
  | nil => intro i md dep deep; simp [run]
  | cons c cs ih =>
    intro i md dep deep
    unfold run
    simp only [Bool.false_eq_true, false_and, if_false]
    repeat' split
    all_goals exact ih _ _ _ _

theorem run_ge (stop : Bool) (cs : List Int) : ∀ (i md : Nat) (dep deep : Int), deep ≤ (run stop i md dep deep cs).2 := by
  induction cs with
  | nil => intro i md dep deep; simp [run]
  | cons c cs ih =>
    intro i md dep deep
    unfold run
    repeat' split
    all_goals first
      | exact ih _ _ _ _
      | (refine Int.le_trans ?_ (ih _ _ _ _); omega)
      | exact Int.le_refl _

theorem run_le_all (cs : List Int) : ∀ (i md : Nat) (dep deep : Int), (run true i md dep deep cs).2 ≤ (run false i md dep deep cs).2 := by
  induction cs with
  | nil => intro i md dep deep; simp [run]
  | cons c cs ih =>
    intro i md dep deep
    unfold run
    simp only [Bool.false_eq_true, false_and, if_false, true_and]
    by_cases h2 : md = 2
    · simp only [h2, if_true]; exact ih _ _ _ _
    · by_cases h1 : md = 1
      · simp only [h2, h1, if_true, if_false]
        by_cases c1 : c = 92
        · simp only [c1, if_true]; simp; exact ih _ _ _ _
        · by_cases c2 : c = 34
          · simp [c2]
            split
            · exact run_ge _ _ _ _ _ _
            · exact ih _ _ _ _
          · simp [c1, c2]; exact ih _ _ _ _
      · simp only [h2, h1, if_false]
        by_cases c2 : c = 34
        · simp only [c2, if_true]; exact ih _ _ _ _
        · by_cases c3 : c = 123 ∨ c = 91
          · simp only [c2, c3, if_true, if_false]; exact ih _ _ _ _
          · by_cases c4 : c = 125 ∨ c = 93
            · simp only [c2, c3, c4, if_true, if_false]
              split
              · exact run_ge _ _ _ _ _ _
              · exact ih _ _ _ _
            · simp only [c2, c3, c4, if_false]; exact ih _ _ _ _

/-- where no end is found, stop changes nothing; an end that is found lies past i, at most at the text's end -/
theorem run_true (cs : List Int) : ∀ (i md : Nat) (dep deep : Int),
    ((run true i md dep deep cs).1 = -1 ∧ run true i md dep deep cs = run false i md dep deep cs) ∨
    ∃ n : Nat, (run true i md dep deep cs).1 = ((i + n : Nat) : Int) ∧ 1 ≤ n ∧ n ≤ cs.length ∧ ∀ r, run true i md dep deep (cs.take n ++ r) = run true i md dep deep cs := by
  induction cs with
  | nil => intro i md dep deep; left; simp [run]
  | cons c cs ih =>
    intro i md dep deep
    have go : ∀ (i' md' : Nat) (dep' deep' : Int), i' = i + 1 → (∀ stop ds, run stop i md dep deep (c :: ds) = run stop i' md' dep' deep' ds) →
        (((run true i md dep deep (c :: cs)).1 = -1 ∧ run true i md dep deep (c :: cs) = run false i md dep deep (c :: cs)) ∨
        ∃ n : Nat, (run true i md dep deep (c :: cs)).1 = ((i + n : Nat) : Int) ∧ 1 ≤ n ∧ n ≤ (c :: cs).length ∧ ∀ r, run true i md dep deep ((c :: cs).take n ++ r) = run true i md dep deep (c :: cs)) := by
      intro i' md' dep' deep' hi hs
      rcases ih i' md' dep' deep' with ⟨h1, h2⟩ | ⟨n, h1, h2, h3, h4⟩
      · left; rw [hs, hs]; exact ⟨h1, h2⟩
      · right
        refine ⟨n + 1, ?_, by omega, by simp; omega, fun r => ?_⟩
        · rw [hs, h1, hi]; congr 1; omega
        · rw [List.take_succ_cons, List.cons_append, hs, hs, h4]
    have goT : ∀ (i' md' : Nat) (dep' deep' : Int), i' = i + 1 → (∀ ds, run true i md dep deep (c :: ds) = run true i' md' dep' deep' ds) → (∀ ds, run false i md dep deep (c :: ds) = run false i' md' dep' deep' ds) →
        (((run true i md dep deep (c :: cs)).1 = -1 ∧ run true i md dep deep (c :: cs) = run false i md dep deep (c :: cs)) ∨
        ∃ n : Nat, (run true i md dep deep (c :: cs)).1 = ((i + n : Nat) : Int) ∧ 1 ≤ n ∧ n ≤ (c :: cs).length ∧ ∀ r, run true i md dep deep ((c :: cs).take n ++ r) = run true i md dep deep (c :: cs)) :=
      fun i' md' dep' deep' hi h1 h2 => go i' md' dep' deep' hi (fun stop ds => by cases stop; exact h2 ds; exact h1 ds)
    have halt : (∀ ds, run true i md dep deep (c :: ds) = ((i : Int) + 1, deep)) →
        (((run true i md dep deep (c :: cs)).1 = -1 ∧ run true i md dep deep (c :: cs) = run false i md dep deep (c :: cs)) ∨
        ∃ n : Nat, (run true i md dep deep (c :: cs)).1 = ((i + n : Nat) : Int) ∧ 1 ≤ n ∧ n ≤ (c :: cs).length ∧ ∀ r, run true i md dep deep ((c :: cs).take n ++ r) = run true i md dep deep (c :: cs)) := by
      intro hs
      right
      refine ⟨1, by rw [hs]; simp, Nat.le_refl _, by simp, fun r => ?_⟩
      rw [List.take_succ_cons, List.cons_append, hs, hs]
    by_cases h2 : md = 2
    · exact go (i + 1) 1 dep deep rfl (fun stop ds => by rw [run]; simp [h2])
    · by_cases h1 : md = 1
      · by_cases c1 : c = 92
        · exact go (i + 1) 2 dep deep rfl (fun stop ds => by rw [run]; simp [h1, c1])
        · by_cases c2 : c = 34
          · by_cases hd : dep = 0
            · exact halt (fun ds => by rw [run]; simp [h1, c2, hd])
            · exact go (i + 1) 0 dep deep rfl (fun stop ds => by rw [run]; simp [h1, c2, hd])
          · exact go (i + 1) 1 dep deep rfl (fun stop ds => by rw [run]; simp [h1, c1, c2])
      · by_cases c2 : c = 34
        · exact go (i + 1) 1 dep deep rfl (fun stop ds => by rw [run]; simp [h2, h1, c2])
        · by_cases c3 : c = 123 ∨ c = 91
          · exact go (i + 1) 0 (dep + 1) (max deep (dep + 1)) rfl (fun stop ds => by rw [run]; simp [h2, h1, c2, c3])
          · by_cases c4 : c = 125 ∨ c = 93
            · by_cases hd : dep - 1 = 0
              · exact halt (fun ds => by rw [run]; simp [h2, h1, c2, c3, c4, hd])
              · exact go (i + 1) 0 (dep - 1) deep rfl (fun stop ds => by rw [run]; simp [h2, h1, c2, c3, c4, hd])
            · exact go (i + 1) 0 dep deep rfl (fun stop ds => by rw [run]; simp [h2, h1, c2, c3, c4])

end Go.Proofs.Qxb6601149a
