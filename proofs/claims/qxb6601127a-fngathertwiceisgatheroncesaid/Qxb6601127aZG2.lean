import Derived.Test.Qxb6601127aZG1
namespace Go.Proofs.Qxb6601127a
open Go.RowKit
set_option linter.unusedVariables false
set_option linter.unusedSimpArgs false

theorem Try.info46 : (Try.prog.info? 46).map (fun i => (i.zero, i.size, i.bytes)) = some (some (.int .u32 0), 1, 4) := by kernel_rfl

/-- the four rows that ZZGather fills -/
def oty : Nat → TypeId
  | 0 => 21
  | 1 => 21
  | 2 => 46
  | _ => 3

def o4 {α : Type} (a b c d : α) : Nat → α
  | 0 => a
  | 1 => b
  | 2 => c
  | _ => d

structure Outs (D : Nat) (w : World) (vs : Nat → Value) (xs : Nat → List Value) : Prop where
  row : ∀ i, i < 4 → w.ownsRow D (oty i) 1 (vs i) (xs i).length (xs i)
  sep : ∀ i j, i < 4 → j < 4 → i ≠ j → ∀ b, (vs i).ownBlock = some b → (vs j).ownBlock ≠ some b

theorem Outs.congr {D : Nat} {w : World} {vs vs' : Nat → Value} {xs xs' : Nat → List Value} (h : Outs D w vs xs) (hv : ∀ i, i < 4 → vs' i = vs i) (hx : ∀ i, i < 4 → xs' i = xs i) : Outs D w vs' xs' := by
  refine ⟨fun i hi => ?_, fun i j hi hj hij b hb => ?_⟩
  · rw [hv i hi, hx i hi]; exact h.row i hi
  · rw [hv j hj]; rw [hv i hi] at hb; exact h.sep i j hi hj hij b hb

theorem owns_of_block {w w' : World} {D : Nat} {e : TypeId} {v : Value} {n : Nat} {xs : List Value} (h : w.ownsRow D e 1 v n xs) (hb : ∀ g, v.ownBlock = some g → w'.heap[g]? = w.heap[g]?) : w'.ownsRow D e 1 v n xs := by
  refine ⟨h.1, ?_⟩
  rcases h.2 with h1 | ⟨g, cap, cur, hv, h2, hg, h3⟩
  · exact .inl h1
  · exact .inr ⟨g, cap, cur, hv, h2, (hb g (by rw [hv]; rfl)).trans hg, h3⟩

theorem Outs.lt {D : Nat} {w : World} {vs : Nat → Value} {xs : Nat → List Value} (h : Outs D w vs xs) {i : Nat} (hi : i < 4) {b : Nat} (hb : (vs i).ownBlock = some b) : D ≤ b ∧ b < w.heap.size := by
  rcases (h.row i hi).2 with ⟨h1, _⟩ | ⟨g, cap, cur, hv, h2, hg, _⟩
  · rw [h1] at hb; cases hb
  · rw [hv] at hb; simp [Value.ownBlock] at hb; subst hb
    exact ⟨h2, (Array.getElem?_eq_some_iff.1 hg).1⟩

theorem Outs.keeps {D : Nat} {w w' : World} {vs : Nat → Value} {xs : Nat → List Value} (h : Outs D w vs xs) (hk : Keeps [] w w') : Outs D w' vs xs :=
  ⟨fun i hi => owns_of_block (h.row i hi) fun g hg => hk.block g (h.lt hi hg).2 (by simp), h.sep⟩

/-- one more number behind row i -/
theorem Outs.push {D : Nat} {w w' : World} {vs : Nat → Value} {xs : Nat → List Value} (h : Outs D w vs xs) (hD : D ≤ w.heap.size) {i : Nat} (hi : i < 4) {v' x : Value} (hown : w'.ownsRow D (oty i) 1 v' ((xs i).length + 1) (xs i ++ [x])) (hgrow : w.grownBy w' (vs i).ownBlock) (hat : v'.ownBlock = (vs i).ownBlock ∨ v'.ownBlock = some w.heap.size) :
    Outs D w' (upd vs i v') (upd xs i (xs i ++ [x])) ∧ Below D w w' := by
  have hk : Keeps (vs i).ownBlock.toList w w' := Keeps.of_grown hgrow
  refine ⟨⟨fun j hj => ?_, fun j l hj hl hjl b hb => ?_⟩, hk.below hD (fun b hb => by simp at hb; exact (h.lt hi hb).1)⟩
  · by_cases e : j = i
    · subst e; rw [upd_same, upd_same, List.length_append]; exact hown
    · rw [upd_ne _ _ e, upd_ne _ _ e]
      exact owns_of_block (h.row j hj) fun g hg => hgrow.block g (h.lt hj hg).2 (fun he => h.sep i j hi hj (fun e' => e e'.symm) g he.symm hg)
  · have hnew : ∀ k, k < 4 → k ≠ i → ∀ c, v'.ownBlock = some c → (vs k).ownBlock ≠ some c := by
      intro k hk' hki c hc hk2
      rcases hat with e | e
      · rw [e] at hc; exact h.sep i k hi hk' (fun e' => hki e'.symm) c hc hk2
      · rw [e] at hc; cases hc; have := (h.lt hk' hk2).2; omega
    by_cases e : j = i
    · subst e
      rw [upd_same] at hb
      rw [upd_ne _ _ (fun e' => hjl e'.symm)]
      exact hnew l hl (fun e' => hjl e'.symm) b hb
    · rw [upd_ne _ _ e] at hb
      by_cases e2 : l = i
      · subst e2; rw [upd_same]
        intro hc; exact hnew j hj e b hc hb
      · rw [upd_ne _ _ e2]; exact h.sep j l hj hl hjl b hb

theorem o4_upd0 {α : Type} (a b c d x : α) (i : Nat) : o4 x b c d i = upd (o4 a b c d) 0 x i := by
  unfold upd; split
  · next h => subst h; rfl
  · next h => rcases i with _ | _ | _ | i <;> first | exact absurd rfl h | rfl
theorem o4_upd1 {α : Type} (a b c d x : α) (i : Nat) : o4 a x c d i = upd (o4 a b c d) 1 x i := by
  unfold upd; split
  · next h => subst h; rfl
  · next h => rcases i with _ | _ | _ | i <;> first | exact absurd rfl h | rfl
theorem o4_upd2 {α : Type} (a b c d x : α) (i : Nat) : o4 a b x d i = upd (o4 a b c d) 2 x i := by
  unfold upd; split
  · next h => subst h; rfl
  · next h => rcases i with _ | _ | _ | i <;> first | exact absurd rfl h | rfl
theorem o4_upd3 {α : Type} (a b c d x : α) (i : Nat) (hi : i < 4) : o4 a b c x i = upd (o4 a b c d) 3 x i := by
  unfold upd; split
  · next h => subst h; rfl
  · next h => rcases i with _ | _ | _ | i <;> first | rfl | omega

section
variable {D : Nat} {w w2 : World} {a b c d v' x : Value} {xa xb xc xd : List Value} {o : Obj}

theorem Outs.pushF (h : Outs D w (o4 a b c d) (o4 xa xb xc xd)) (hD : D ≤ w.heap.size) (hown : w2.ownsRow D 21 1 v' (xa.length + 1) (xa ++ [x])) (hgrow : (w.alloc o).grownBy w2 a.ownBlock) (hat : v'.ownBlock = a.ownBlock ∨ v'.ownBlock = some (w.alloc o).heap.size) :
    Outs D w2 (o4 v' b c d) (o4 (xa ++ [x]) xb xc xd) ∧ Below D w w2 := by
  have hk : Keeps [] w (w.alloc o) := (Keeps.refl [] w).alloc o
  obtain ⟨h1, h2⟩ := (h.keeps hk).push (Nat.le_trans hD hk.size) (i := 0) (by omega) hown hgrow hat
  exact ⟨h1.congr (fun i _ => o4_upd0 _ _ _ _ _ i) (fun i _ => o4_upd0 _ _ _ _ _ i), (hk.below hD (by simp)).trans h2⟩
theorem Outs.pushT (h : Outs D w (o4 a b c d) (o4 xa xb xc xd)) (hD : D ≤ w.heap.size) (hown : w2.ownsRow D 21 1 v' (xb.length + 1) (xb ++ [x])) (hgrow : (w.alloc o).grownBy w2 b.ownBlock) (hat : v'.ownBlock = b.ownBlock ∨ v'.ownBlock = some (w.alloc o).heap.size) :
    Outs D w2 (o4 a v' c d) (o4 xa (xb ++ [x]) xc xd) ∧ Below D w w2 := by
  have hk : Keeps [] w (w.alloc o) := (Keeps.refl [] w).alloc o
  obtain ⟨h1, h2⟩ := (h.keeps hk).push (Nat.le_trans hD hk.size) (i := 1) (by omega) hown hgrow hat
  exact ⟨h1.congr (fun i _ => o4_upd1 _ _ _ _ _ i) (fun i _ => o4_upd1 _ _ _ _ _ i), (hk.below hD (by simp)).trans h2⟩
theorem Outs.pushK (h : Outs D w (o4 a b c d) (o4 xa xb xc xd)) (hD : D ≤ w.heap.size) (hown : w2.ownsRow D 46 1 v' (xc.length + 1) (xc ++ [x])) (hgrow : (w.alloc o).grownBy w2 c.ownBlock) (hat : v'.ownBlock = c.ownBlock ∨ v'.ownBlock = some (w.alloc o).heap.size) :
    Outs D w2 (o4 a b v' d) (o4 xa xb (xc ++ [x]) xd) ∧ Below D w w2 := by
  have hk : Keeps [] w (w.alloc o) := (Keeps.refl [] w).alloc o
  obtain ⟨h1, h2⟩ := (h.keeps hk).push (Nat.le_trans hD hk.size) (i := 2) (by omega) hown hgrow hat
  exact ⟨h1.congr (fun i _ => o4_upd2 _ _ _ _ _ i) (fun i _ => o4_upd2 _ _ _ _ _ i), (hk.below hD (by simp)).trans h2⟩
theorem Outs.pushL (h : Outs D w (o4 a b c d) (o4 xa xb xc xd)) (hD : D ≤ w.heap.size) (hown : w2.ownsRow D 3 1 v' (xd.length + 1) (xd ++ [x])) (hgrow : (w.alloc o).grownBy w2 d.ownBlock) (hat : v'.ownBlock = d.ownBlock ∨ v'.ownBlock = some (w.alloc o).heap.size) :
    Outs D w2 (o4 a b c v') (o4 xa xb xc (xd ++ [x])) ∧ Below D w w2 := by
  have hk : Keeps [] w (w.alloc o) := (Keeps.refl [] w).alloc o
  obtain ⟨h1, h2⟩ := (h.keeps hk).push (Nat.le_trans hD hk.size) (i := 3) (by omega) hown hgrow hat
  exact ⟨h1.congr (fun i hi => o4_upd3 _ _ _ _ _ i hi) (fun i hi => o4_upd3 _ _ _ _ _ i hi), (hk.below hD (by simp)).trans h2⟩
end

end Go.Proofs.Qxb6601127a
