import Derived.Test.Qxb6601127aGSet
namespace Go.Proofs.Qxb6601127a
open Go.RowKit
set_option linter.unusedVariables false
set_option linter.unusedSimpArgs false

/-- an edge: tail, head, kind and item -/
abbrev Edge := Int × Int × Int

/-- block b holds n ints, F i at place i -/
def IB (w : World) (b n : Nat) (F : Nat → Int) : Prop := w.rowIs b 3 n (fun i => .int .i64 (F i))

theorem IB.cell {w : World} {b n : Nat} {F : Nat → Int} (h : IB w b n F) {i : Nat} (hi : i < n) : w.cell? ⟨b, i, none⟩ = some (.int .i64 (F i)) := World.rowIs.cell h hi
theorem IB.frozen {w : World} {b n : Nat} {F : Nat → Int} (h : IB w b n F) (i : Nat) : w.frozen? ⟨b, i, none⟩ = false := World.rowIs.frozen h i
theorem IB.lt {w : World} {b n : Nat} {F : Nat → Int} (h : IB w b n F) : b < w.heap.size := World.rowIs.lt h
theorem IB.congr {w : World} {b n : Nat} {F G : Nat → Int} (h : IB w b n F) (e : ∀ i, i < n → F i = G i) : IB w b n G := World.rowIs.congr h (fun i hi => by rw [e i hi])
theorem IB.of_block {w w' : World} {b n : Nat} {F : Nat → Int} (h : IB w b n F) (e : w'.heap[b]? = w.heap[b]?) : IB w' b n F := World.rowIs.of_block h e
theorem IB.set {w : World} {b n : Nat} {F : Nat → Int} (h : IB w b n F) (i : Nat) (v : Int) : IB (w.setCell ⟨b, i, none⟩ (.int .i64 v)) b n (fun j => if j = i then v else F j) :=
  World.rowIs.congr (World.rowIs.set h i _) (fun j _ => by by_cases hj : j = i <;> simp [hj])
theorem IB.setOther {w : World} {b n : Nat} {F : Nat → Int} (h : IB w b n F) {a : Addr} (ha : b ≠ a.block) (v : Value) : IB (w.setCell a v) b n F := World.rowIs.setOther h ha v
theorem IB.alloc {w : World} {b n : Nat} {F : Nat → Int} (h : IB w b n F) (o : Obj) : IB (w.alloc o) b n F := World.rowIs.alloc h o
theorem IB.drew {w : World} {b n : Nat} {F : Nat → Int} (h : IB w b n F) : IB w.drew b n F := h
theorem IB.keeps {S : List Nat} {w w' : World} {b n : Nat} {F : Nat → Int} (h : IB w b n F) (hk : Keeps S w w') (hn : b ∉ S) : IB w' b n F := h.of_block (hk.block b h.lt hn)
theorem Keeps.drew {S : List Nat} {a w : World} (h : Keeps S a w) : Keeps S a w.drew := ⟨h.os, h.tape, h.output, h.size, h.block⟩

/-- how many edges start at n -/
def cntE (ds : List Edge) (n : Nat) : Nat := ds.countP (fun e => decide (e.1 = (n : Int)))
/-- how many edges start before n -/
def befE (ds : List Edge) (n : Nat) : Nat := ds.countP (fun e => decide (e.1 < (n : Int)))

theorem cntE_snoc (ds : List Edge) (e : Edge) (n : Nat) : cntE (ds ++ [e]) n = cntE ds n + if e.1 = (n : Int) then 1 else 0 := by
  unfold cntE
  rw [List.countP_append]
  simp [List.countP_cons]

theorem cntE_le (ds : List Edge) (n : Nat) : cntE ds n ≤ ds.length := List.countP_le_length

theorem befE_le (ds : List Edge) (n : Nat) : befE ds n ≤ ds.length := List.countP_le_length

theorem befE_succ (ds : List Edge) (n : Nat) : befE ds (n + 1) = befE ds n + cntE ds n := by
  unfold befE cntE
  induction ds with
  | nil => rfl
  | cons e ds ih =>
    simp only [List.countP_cons, ih]
    by_cases h1 : e.1 < (n : Int)
    · have h2 : e.1 < ((n + 1 : Nat) : Int) := by omega
      have h3 : ¬ e.1 = (n : Int) := by omega
      simp only [h1, h2, h3, decide_true, decide_false, if_true, Bool.false_eq_true, if_false]; omega
    · by_cases h3 : e.1 = (n : Int)
      · have h2 : e.1 < ((n + 1 : Nat) : Int) := by omega
        rw [if_pos (by simpa using h2), if_neg (by simpa using h1), if_pos (by simpa using h3)]; omega
      · have h2 : ¬ e.1 < ((n + 1 : Nat) : Int) := by omega
        simp only [h1, h2, h3, decide_false, Bool.false_eq_true, if_false]; omega

theorem befE_mono (ds : List Edge) (a b : Nat) (h : a ≤ b) : befE ds a ≤ befE ds b := by
  induction b with
  | zero => obtain rfl : a = 0 := by omega
            exact Nat.le_refl _
  | succ b ih =>
    rcases Nat.lt_or_ge b a with h1 | h1
    · obtain rfl : a = b + 1 := by omega
      exact Nat.le_refl _
    · rw [befE_succ]; have := ih h1; omega

/-- every tail is a node -/
def Tails (N : Nat) (ds : List Edge) : Prop := ∀ e ∈ ds, 0 ≤ e.1 ∧ e.1 < (N : Int)

theorem befE_zero {N : Nat} {ds : List Edge} (h : Tails N ds) : befE ds 0 = 0 := by
  unfold befE
  rw [List.countP_eq_zero]
  intro e he
  have := h e he
  simp; omega
theorem befE_all {N : Nat} {ds : List Edge} (h : Tails N ds) : befE ds N = ds.length := by
  unfold befE
  rw [List.countP_eq_length]
  intro e he
  have := h e he
  simp; omega

/-- start as it is filled: at n + 1 the edges of node n -/
def cntF (ds : List Edge) (n : Nat) : Int := if n = 0 then 0 else (cntE ds (n - 1) : Int)

theorem cntF_snoc (ds : List Edge) (e : Edge) (m : Nat) (he : e.1 = (m : Int)) (j : Nat) : cntF (ds ++ [e]) j = if j = m + 1 then cntF ds (m + 1) + 1 else cntF ds j := by
  unfold cntF
  by_cases h0 : j = 0
  · subst h0; simp
  · rw [if_neg h0, cntE_snoc, he]
    by_cases h1 : j = m + 1
    · subst h1; simp
    · rw [if_neg h1, if_neg h0, if_neg (by omega)]; simp

theorem eF_get (es : List Edge) (i : Nat) (e : Edge) (h : es[i]? = some e) : eF es i = e.1 ∧ eT es i = e.2.1 ∧ eK es i = e.2.2 := by
  unfold eF eT eK; rw [h]; exact ⟨rfl, rfl, rfl⟩

/-- the fresh cells of a round's edge -/
def box3 (e : Edge) : Obj := .cells #[.int .i32 e.1, .int .i32 e.2.1, .int .u32 e.2.2] 70

end Go.Proofs.Qxb6601127a
