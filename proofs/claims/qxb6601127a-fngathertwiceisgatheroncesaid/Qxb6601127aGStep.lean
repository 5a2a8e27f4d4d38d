import Derived.Test.Qxb6601127aGMove
import Derived.Deep.RegionHeld3
import Derived.Deep.DrawnRows
namespace Go.Proofs.Qxb6601127a
open Go.RowKit
set_option linter.unusedVariables false
set_option linter.unusedSimpArgs false

theorem enters36 (args : Array Value) (w : World) : (callFunc 36 args).run Try.prog w = .ok (.enter 36 args) w := by
  have h1 : (Try.f36.name == "runtime.NumGoroutine") = false := by kernel_rfl
  have h2 : Try.f36.body.isNone = false := by kernel_rfl
  have h3 : Try.f36.name ≠ "runtime.NumGoroutine" := by simpa using h1
  obtain ⟨c, h4⟩ : ∃ c, Try.f36.body = some c := by
    cases h : Try.f36.body with
    | none => rw [h] at h2; cases h2
    | some c => exact ⟨c, rfl⟩
  simp [callFunc, go_sem, Try.func36, h3, h4]

theorem enters37 (args : Array Value) (w : World) : (callFunc 37 args).run Try.prog w = .ok (.enter 37 args) w := by
  have h1 : (Try.f37.name == "runtime.NumGoroutine") = false := by kernel_rfl
  have h2 : Try.f37.body.isNone = false := by kernel_rfl
  have h3 : Try.f37.name ≠ "runtime.NumGoroutine" := by simpa using h1
  obtain ⟨c, h4⟩ : ∃ c, Try.f37.body = some c := by
    cases h : Try.f37.body with
    | none => rw [h] at h2; cases h2
    | some c => exact ⟨c, rfl⟩
  simp [callFunc, go_sem, Try.func37, h3, h4]

theorem enters38 (args : Array Value) (w : World) : (callFunc 38 args).run Try.prog w = .ok (.enter 38 args) w := by
  have h1 : (Try.f38.name == "runtime.NumGoroutine") = false := by kernel_rfl
  have h2 : Try.f38.body.isNone = false := by kernel_rfl
  have h3 : Try.f38.name ≠ "runtime.NumGoroutine" := by simpa using h1
  obtain ⟨c, h4⟩ : ∃ c, Try.f38.body = some c := by
    cases h : Try.f38.body with
    | none => rw [h] at h2; cases h2
    | some c => exact ⟨c, rfl⟩
  simp [callFunc, go_sem, Try.func38, h3, h4]

theorem enters39 (args : Array Value) (w : World) : (callFunc 39 args).run Try.prog w = .ok (.enter 39 args) w := by
  have h1 : (Try.f39.name == "runtime.NumGoroutine") = false := by kernel_rfl
  have h2 : Try.f39.body.isNone = false := by kernel_rfl
  have h3 : Try.f39.name ≠ "runtime.NumGoroutine" := by simpa using h1
  obtain ⟨c, h4⟩ : ∃ c, Try.f39.body = some c := by
    cases h : Try.f39.body with
    | none => rw [h] at h2; cases h2
    | some c => exact ⟨c, rfl⟩
  simp [callFunc, go_sem, Try.func39, h3, h4]

/-- a call of a function value, as one step of a region that draws -/
theorem step_calls {P : Program} {ops : Array Oper} {o : Oper} {a : Act} {w : World} {K : Act → World → Prop} {Q : Exit → Act → World → Prop} {E : Prop} (hgd : o.guard = none) (s : Operand) (xs : Array Operand) (ts : Array TypeId)
    (ho : o.op = .call { callee := .value s, args := xs, argTypes := ts }) (f : FuncId) (hent : ∀ args w, (callFunc f args).run P w = .ok (.enter f args) w) (caps args : Array Value) (hs : a.eval s = .func (.func f) #[] caps) (hx : xs.map a.eval ++ caps = args)
    (R : Ending → World → Prop) (hc : Calls P f args w R) (h : ∀ e w', R e w' → ∃ v, e = .returned v ∧ K (a.put o.dst v) w') :
    if Region.wanted o (yielded ops a.tmps) = true then Oper.wp P o a w K Q else E := by
  have hw : Region.wanted o (yielded ops a.tmps) = true := by simp [Region.wanted, hgd]
  rw [if_pos hw]
  unfold Oper.wp execOp
  have hr := hent args w
  simp only [ho, resolve, invoke, Sem.run_bind, Sem.run_pure, Result.andThen_ok, hs, Deferred.ofValue, Array.empty_append, hx, hr]
  rw [Oper.upon_enter]
  refine hc.mono ?_
  intro e w' hR
  obtain ⟨v, rfl, hK⟩ := h e w' hR
  exact hK

/-- a call of a function by its name with two arguments -/
theorem step_calls2 {P : Program} {ops : Array Oper} {o : Oper} {a : Act} {w : World} {K : Act → World → Prop} {Q : Exit → Act → World → Prop} {E : Prop} (hgd : o.guard = none) (s x y : Operand) (ts : Array TypeId)
    (ho : o.op = .call { callee := .value s, args := #[x, y], argTypes := ts }) (f : FuncId) (hent : ∀ args w, (callFunc f args).run P w = .ok (.enter f args) w) (u v : Value) (hs : a.eval s = .func (.func f) #[] #[]) (hx : a.eval x = u) (hy : a.eval y = v)
    (R : Ending → World → Prop) (hc : Calls P f #[u, v] w R) (h : ∀ e w', R e w' → ∃ v, e = .returned v ∧ K (a.put o.dst v) w') :
    if Region.wanted o (yielded ops a.tmps) = true then Oper.wp P o a w K Q else E :=
  step_calls hgd s #[x, y] ts ho f hent #[] #[u, v] hs (by simp [hx, hy]) R hc h

theorem step_calls3 {P : Program} {ops : Array Oper} {o : Oper} {a : Act} {w : World} {K : Act → World → Prop} {Q : Exit → Act → World → Prop} {E : Prop} (hgd : o.guard = none) (s x y z : Operand) (ts : Array TypeId)
    (ho : o.op = .call { callee := .value s, args := #[x, y, z], argTypes := ts }) (f : FuncId) (hent : ∀ args w, (callFunc f args).run P w = .ok (.enter f args) w) (u v t : Value) (hs : a.eval s = .func (.func f) #[] #[]) (hx : a.eval x = u) (hy : a.eval y = v) (hz : a.eval z = t)
    (R : Ending → World → Prop) (hc : Calls P f #[u, v, t] w R) (h : ∀ e w', R e w' → ∃ v, e = .returned v ∧ K (a.put o.dst v) w') :
    if Region.wanted o (yielded ops a.tmps) = true then Oper.wp P o a w K Q else E :=
  step_calls hgd s #[x, y, z] ts ho f hent #[] #[u, v, t] hs (by simp [hx, hy, hz]) R hc h

/-- the closure 'first', as one step -/
theorem step_first {ops : Array Oper} {o : Oper} {a : Act} {w : World} {K : Act → World → Prop} {Q : Exit → Act → World → Prop} {E : Prop} (hgd : o.guard = none) (s x : Operand) (t : TypeId)
    (ho : o.op = .call { callee := .value s, args := #[x], argTypes := #[t] }) (p q : Value) (z v : Value) (hs : a.eval s = .func (.func 36) #[] #[p, q]) (hx : a.eval x = z)
    (hc : Calls Try.prog 36 #[z, p, q] w fun e w' => e = .returned v ∧ w.drew = w') (h : K (a.put o.dst v) w.drew) :
    if Region.wanted o (yielded ops a.tmps) = true then Oper.wp Try.prog o a w K Q else E :=
  step_calls hgd s #[x] #[t] ho 36 enters36 #[p, q] #[z, p, q] hs (by simp [hx]) _ hc (by rintro e w' ⟨rfl, rfl⟩; exact ⟨v, rfl, h⟩)

end Go.Proofs.Qxb6601127a
