/-
  THE CANONICAL JSON STRING, plainly: no Go in sight.
-/
import Derived.Test.Qxb6601149aPlain
namespace Go.Proofs.Qxb6601149a
set_option linter.unusedSimpArgs false
set_option linter.unusedVariables false

/-- a lower-case hex digit -/
def hexd (d : Int) : Int := if d < 10 then 48 + d else 87 + d

/-- one byte, escaped -/
def enc1 (c : Int) : List Int :=
  if c = 34 ∨ c = 92 then [92, c]
  else if c = 10 then [92, 110]
  else if c = 13 then [92, 114]
  else if c = 9 then [92, 116]
  else if c < 32 then [92, 117, 48, 48, hexd (c / 16), hexd (c % 16)]
  else [c]

/-- the text between the quotation marks -/
def body (s : List Int) : List Int := s.flatMap enc1

/-- the whole string -/
def enc (s : List Int) : List Int := 34 :: (body s ++ [34])

theorem enc1_length (c : Int) : 1 ≤ (enc1 c).length ∧ (enc1 c).length ≤ 6 := by
  unfold enc1
  repeat' split
  all_goals simp

theorem body_append (a b : List Int) : body (a ++ b) = body a ++ body b := by simp [body]
theorem body_cons (c : Int) (b : List Int) : body (c :: b) = enc1 c ++ body b := by simp [body]

theorem body_length (s : List Int) : s.length ≤ (body s).length ∧ (body s).length ≤ 6 * s.length := by
  induction s with
  | nil => simp [body]
  | cons c s ih =>
    rw [body_cons, List.length_append, List.length_cons]
    have := enc1_length c
    omega

theorem enc_length (s : List Int) : (enc s).length = (body s).length + 2 := by
  unfold enc; simp

/-- inside a string the walker passes over an escaped byte -/
theorem run_enc1 (stop : Bool) (c : Int) (hc : 0 ≤ c) (i : Nat) (dep deep : Int) (r : List Int) : run stop i 1 dep deep (enc1 c ++ r) = run stop (i + (enc1 c).length) 1 dep deep r := by
  unfold enc1
  by_cases h1 : c = 34 ∨ c = 92
  · simp only [h1, if_true, List.cons_append, List.nil_append]
    rw [run]; simp; rw [run]; simp
  · by_cases h2 : c = 10
    · subst h2; simp; rw [run]; simp; rw [run]; simp
    · by_cases h3 : c = 13
      · subst h3; simp; rw [run]; simp; rw [run]; simp
      · by_cases h4 : c = 9
        · subst h4; simp; rw [run]; simp; rw [run]; simp
        · by_cases h5 : c < 32
          · simp only [h1, h2, h3, h4, h5, if_true, if_false, List.cons_append, List.nil_append]
            have e1 : hexd (c / 16) ≠ 34 ∧ hexd (c / 16) ≠ 92 := by unfold hexd; constructor <;> split <;> omega
            have e2 : hexd (c % 16) ≠ 34 ∧ hexd (c % 16) ≠ 92 := by unfold hexd; constructor <;> split <;> omega
            rw [run]; simp; rw [run]; simp; rw [run]; simp; rw [run]; simp; rw [run]; simp [e1.1, e1.2]; rw [run]; simp [e2.1, e2.2]
          · have h6 : c ≠ 34 := fun e => h1 (.inl e)
            have h7 : c ≠ 92 := fun e => h1 (.inr e)
            simp only [h1, h2, h3, h4, h5, if_false, List.cons_append, List.nil_append]
            rw [run]; simp [h6, h7]

theorem run_body (stop : Bool) (s : List Int) (hs : ∀ c ∈ s, 0 ≤ c) : ∀ (i : Nat) (dep deep : Int) (r : List Int), run stop i 1 dep deep (body s ++ r) = run stop (i + (body s).length) 1 dep deep r := by
  induction s with
  | nil => intro i dep deep r; simp [body]
  | cons c s ih =>
    intro i dep deep r
    rw [body_cons, List.append_assoc, run_enc1 _ _ (hs c (by simp)), ih (fun d hd => hs d (by simp [hd])), List.length_append]
    congr 1; omega

/-- the walker at an encoded string, outside: it goes in and comes out -/
theorem run_enc (stop : Bool) (s : List Int) (hs : ∀ c ∈ s, 0 ≤ c) (i : Nat) (dep deep : Int) (r : List Int) :
    run stop i 0 dep deep (enc s ++ r) = if stop = true ∧ dep = 0 then ((i : Int) + (enc s).length, deep) else run stop (i + (enc s).length) 0 dep deep r := by
  unfold enc
  rw [List.cons_append, run]
  simp only [show ¬ (0 : Nat) = 2 by omega, show ¬ (0 : Nat) = 1 by omega, if_false, if_true]
  rw [List.append_assoc, run_body _ _ hs, List.singleton_append, run]
  simp only [show ¬ (1 : Nat) = 2 by omega, show ¬ (34 : Int) = 92 by omega, if_false, if_true, List.length_cons, List.length_append, List.length_nil]
  split
  · congr 1; omega
  · congr 1; omega

theorem run_enc_alone (s : List Int) (hs : ∀ c ∈ s, 0 ≤ c) : run false 0 0 0 0 (enc s) = (-1, 0) := by
  have h := run_enc false s hs 0 0 0 []
  rw [List.append_nil] at h
  rw [h]; simp [run]

theorem run_enc_stop (s r : List Int) (hs : ∀ c ∈ s, 0 ≤ c) : run true 0 0 0 0 (enc s ++ r) = (((enc s).length : Int), (0 : Int)) := by
  rw [run_enc _ _ hs]; simp

/-- the string in brackets -/
def arr (s : List Int) : List Int := 91 :: (enc s ++ [93])

theorem arr_length (s : List Int) : (arr s).length = (enc s).length + 2 := by unfold arr; simp

theorem run_arr (stop : Bool) (s r : List Int) (hs : ∀ c ∈ s, 0 ≤ c) : run stop 0 0 0 0 (arr s ++ r) = if stop = true then (((arr s).length : Int), 1) else run stop (arr s).length 0 0 1 r := by
  rw [arr_length]
  unfold arr
  rw [List.cons_append, run]
  simp only [show ¬ (0 : Nat) = 2 by omega, show ¬ (0 : Nat) = 1 by omega, show ¬ (91 : Int) = 34 by omega, show ((91 : Int) = 123 ∨ (91 : Int) = 91) by omega, if_false, if_true]
  rw [List.append_assoc, run_enc _ _ hs]
  have e : ¬ (stop = true ∧ (0 : Int) + 1 = 0) := by rintro ⟨_, h⟩; omega
  rw [if_neg e, List.singleton_append, run]
  simp only [show ¬ (0 : Nat) = 2 by omega, show ¬ (0 : Nat) = 1 by omega, show ¬ (93 : Int) = 34 by omega, show ¬ ((93 : Int) = 123 ∨ (93 : Int) = 91) by omega, show ((93 : Int) = 125 ∨ (93 : Int) = 93) by omega, if_false, if_true]
  cases stop
  · simp; congr 1 <;> omega
  · simp; omega

theorem run_arr_alone (s : List Int) (hs : ∀ c ∈ s, 0 ≤ c) : run false 0 0 0 0 (arr s) = (-1, 1) := by
  have h := run_arr false s [] hs
  rw [List.append_nil] at h
  rw [h]; simp [run]

theorem run_arr_stop (s r : List Int) (hs : ∀ c ∈ s, 0 ≤ c) : run true 0 0 0 0 (arr s ++ r) = (((arr s).length : Int), (1 : Int)) := by
  rw [run_arr _ _ _ hs]; simp

end Go.Proofs.Qxb6601149a
