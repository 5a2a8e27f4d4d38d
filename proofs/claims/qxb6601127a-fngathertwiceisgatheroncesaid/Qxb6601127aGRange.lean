import Derived.Test.Qxb6601127aGStep
namespace Go.Proofs.Qxb6601127a
open Go.RowKit
set_option linter.unusedVariables false
set_option linter.unusedSimpArgs false

/-- the builtin min of two ints, as one step of a region that draws -/
theorem step_min {P : Program} {ops : Array Oper} {o : Oper} {a : Act} {w : World} {K : Act → World → Prop} {Q : Exit → Act → World → Prop} {E : Prop} (hgd : o.guard = none) (x y : Operand) (t : TypeId)
    (ho : o.op = .call { callee := .builtin .min, args := #[x, y], argTypes := #[t, t] }) (p q : Nat) (hx : a.eval x = .int .i64 (p : Int)) (hy : a.eval y = .int .i64 (q : Int))
    (h : K (a.put o.dst (.int .i64 ((min p q : Nat) : Int))) w) :
    if Region.wanted o (yielded ops a.tmps) = true then Oper.wp P o a w K Q else E := by
  have hw : Region.wanted o (yielded ops a.tmps) = true := by simp [Region.wanted, hgd]
  rw [if_pos hw]
  unfold Oper.wp execOp
  simp only [ho, resolve, invoke, builtin, Sem.run_bind, Sem.run_pure, Result.andThen_ok, List.map_toArray, List.map_cons, List.map_nil, hx, hy]
  have hm : (Builtin.min_ #[t, t] o.type #[.int .i64 (p : Int), .int .i64 (q : Int)]).run P w = .ok (.int .i64 ((min p q : Nat) : Int)) w := by
    have e : (if (q : Int) < (p : Int) then (q : Int) else (p : Int)) = ((min p q : Nat) : Int) := by split <;> omega
    rw [← e]
    rfl
  rw [hm]
  exact h

/-- the edges of range r -/
def rgE (sh r : Nat) (ds : List Edge) : List Edge := ds.filter (fun e => decide (e.1.toNat / 2 ^ sh = r))

theorem rgE_snoc (sh r : Nat) (ds : List Edge) (e : Edge) : rgE sh r (ds ++ [e]) = rgE sh r ds ++ (if e.1.toNat / 2 ^ sh = r then [e] else []) := by
  unfold rgE
  rw [List.filter_append]
  by_cases h : e.1.toNat / 2 ^ sh = r
  · rw [if_pos h]; simp [h]
  · rw [if_neg h]; simp [h]

theorem rgE_le (sh r : Nat) (ds : List Edge) : (rgE sh r ds).length ≤ ds.length := List.length_filter_le _ _

theorem rgE_append (sh r : Nat) (ds es : List Edge) : rgE sh r (ds ++ es) = rgE sh r ds ++ rgE sh r es := by unfold rgE; rw [List.filter_append]

/-- the first node of range r -/
def fr (sh N r : Nat) : Nat := min (r * 2 ^ sh) N
theorem fr_le (sh N r : Nat) : fr sh N r ≤ N := Nat.min_le_right _ _

theorem fr_mem (sh N r m : Nat) (hm : m < N) : m / 2 ^ sh = r ↔ fr sh N r ≤ m ∧ m < fr sh N (r + 1) := by
  have hp : 0 < 2 ^ sh := Nat.two_pow_pos sh
  unfold fr
  rw [Nat.div_eq_iff hp, Nat.succ_mul]
  generalize r * 2 ^ sh = x
  generalize 2 ^ sh = y at *
  omega

theorem fr_mono (sh N r : Nat) : fr sh N r ≤ fr sh N (r + 1) := by
  unfold fr
  rw [Nat.succ_mul]
  generalize r * 2 ^ sh = x
  generalize 2 ^ sh = y at *
  omega

theorem rgE_count {N : Nat} {ds : List Edge} (h : Tails N ds) (sh r : Nat) : (rgE sh r ds).length + befE ds (fr sh N r) = befE ds (fr sh N (r + 1)) := by
  have hmono := fr_mono sh N r
  unfold rgE befE
  rw [← List.countP_eq_length_filter]
  induction ds with
  | nil => rfl
  | cons e ds ih =>
    have ht := h e (List.mem_cons_self)
    have ih' := ih (fun x hx => h x (List.mem_cons_of_mem _ hx))
    have hm := fr_mem sh N r e.1.toNat (by omega)
    simp only [List.countP_cons]
    generalize fr sh N r = a at *
    generalize fr sh N (r + 1) = b at *
    by_cases h1 : e.1 < (a : Int)
    · have h2 : e.1 < (b : Int) := by omega
      have h3 : ¬ e.1.toNat / 2 ^ sh = r := by rw [hm]; omega
      simp only [h1, h2, h3, decide_true, decide_false, if_true, Bool.false_eq_true, if_false]; omega
    · by_cases h2 : e.1 < (b : Int)
      · have h3 : e.1.toNat / 2 ^ sh = r := by rw [hm]; omega
        simp only [h1, h2, h3, decide_true, decide_false, if_true, Bool.false_eq_true, if_false]; omega
      · have h3 : ¬ e.1.toNat / 2 ^ sh = r := by rw [hm]; omega
        simp only [h1, h2, h3, decide_true, decide_false, if_true, Bool.false_eq_true, if_false]; omega

end Go.Proofs.Qxb6601127a
