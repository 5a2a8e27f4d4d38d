import Derived.Test.Qxb6601127aZL2
namespace Go.Proofs.Qxb6601127a
open Go.RowKit
set_option linter.unusedVariables false
set_option linter.unusedSimpArgs false

theorem Keeps.trans_new {a w1 w2 : World} {b : Nat} (h : Keeps [] a w1) (k : Keeps [b] w1 w2) (hb : a.heap.size ≤ b) : Keeps [] a w2 :=
  ⟨k.os.trans h.os, k.tape.trans h.tape, k.output.trans h.output, Nat.le_trans h.size k.size, fun j hj _ => (k.block j (Nat.lt_of_lt_of_le hj h.size) (by simp; omega)).trans (h.block j hj (by simp))⟩

/-- the graph as it is made -/
theorem GStart.first {w w1 : World} {N : Nat} (hk : Keeps [] w w1) (hs : w.heap.size < w1.heap.size) (c1 : w1.cell? ⟨w.heap.size, 1, none⟩ = some (.int .i64 (N : Int))) (c3 : w1.cell? ⟨w.heap.size, 3, none⟩ = some (.slice none 0 0)) (c4 : w1.cell? ⟨w.heap.size, 4, none⟩ = some (.slice none 0 0)) (hf : ∀ i, w1.frozen? ⟨w.heap.size, i, none⟩ = false) :
    GStart w1 w.heap.size w.heap.size N [] (upd (fun _ => .no) w.heap.size (.fix 0)) (fun _ => []) (fun _ => .slice none 0 0) := by
  refine ⟨⟨fun g => ⟨[], Row.nil _, rfl, fun i p hp => by simp at hp⟩, fun g i p hp => by simp at hp, fun g b hb => (by cases hb), fun b hb => ?_⟩, by omega, rfl, fun _ _ => ⟨rfl, rfl⟩, upd_same _ _ _, c1, c3, c4, hf, fun e he => by simp [flat] at he⟩
  by_cases e : b = w.heap.size
  · subst e; exact ⟨Nat.le_refl _, hs⟩
  · rw [upd_ne _ _ e] at hb; exact absurd rfl hb

/-- a part goes behind the graph's last -/
theorem GStart.push {w w5 w6 w7 : World} {B g N b n : Nat} {P : List Part} {τ : Nat → Role} {ps : Nat → List (Option Part)} {ov : Nat → Value} (h : GStart w B g N P τ ps ov) {es : List Edge} (hk5 : Keeps [] w w5) (hb : w.heap.size ≤ b) (hP : PartAt w5 b n es) (hn : es.length = n) (hk6 : Keeps [] w5 w6) {v2 sv : Value} (hsv : ov gG = sv) {xs : List Value} (hx : RowOf w (ps gG) (ov gG) xs)
    (hown : w7.ownsRow 0 68 1 v2 (xs.length + 1) (xs ++ [.slice (some ⟨b, 0, none⟩) n n])) (hgrow : w6.grownBy w7 sv.ownBlock) (hat : v2.ownBlock = sv.ownBlock ∨ v2.ownBlock = some w6.heap.size) (htl : Tails N (flat P ++ es)) :
    Hid (∃ τ' ps' ov', GStart (w7.setCell ⟨g, 3, none⟩ v2) B g N (P ++ [⟨b, n, es⟩]) τ' ps' ov' ∧ Below B w (w7.setCell ⟨g, 3, none⟩ v2)) ∧ w7.cell? ⟨g, 3, none⟩ = some sv ∧ w7.frozen? ⟨g, 3, none⟩ = false := by
  subst hsv
  have hbl : b < w5.heap.size := hP.lt
  obtain ⟨g5, s5⟩ := h.gi.fresh h.hB hk5 hb hbl .loose (.inl rfl)
  have hB5 : B ≤ w5.heap.size := Nat.le_trans h.hB hk5.size
  obtain ⟨g6, s6⟩ := g5.step hB5 hk6 (K := []) (by simp)
  have hB6 : B ≤ w6.heap.size := Nat.le_trans hB5 hk6.size
  have t5 := s5.fix _ _ h.t0
  have t6 := s6.fix _ _ t5
  have hlt5 := (live_lt g5 t5 (by simp)).2
  have hlt6 := (live_lt g6 t6 (by simp)).2
  have hgne : (ov gG).ownBlock ≠ some g := by intro e; have := g6.out gG g e; rw [t6] at this; cases this
  have e7 : w7.heap[g]? = w.heap[g]? := by
    rw [hgrow.block g hlt6 (fun e => hgne e.symm), s6.same g 0 t5 (by simp), s5.same g 0 h.t0 (by simp)]
  have c3 : w7.cell? ⟨g, 3, none⟩ = some (ov gG) := (World.cell?_of_block (w := w) (a := ⟨g, 3, none⟩) e7).trans h.cg3
  have fz : ∀ i, w7.frozen? ⟨g, i, none⟩ = false := fun i => (frozen_of_block (w := w) (a := ⟨g, i, none⟩) e7).trans (h.fg i)
  have hvg : ∀ c, v2.ownBlock = some c → c ≠ g := by
    rintro c hc rfl
    rcases hat with e | e
    · rw [e] at hc; exact hgne hc
    · rw [e] at hc; cases hc; omega
  have hval : Part.val ⟨b, n, es⟩ = .slice (some ⟨b, 0, none⟩) n n := by unfold Part.val; simp [hn]
  have hR : Row (w7.setCell ⟨g, 3, none⟩ v2) v2 (xs ++ [Part.val ⟨b, n, es⟩]) := by
    have : Row w7 v2 (xs ++ [Part.val ⟨b, n, es⟩]) := by unfold Row; rw [List.length_append, hval]; exact hown
    exact this.of_blocks fun c hc => Below.heap_setCell _ _ _ _ (hvg c hc)
  have hkg : Keeps ([g] ++ (ov gG).ownBlock.toList) w6 (w7.setCell ⟨g, 3, none⟩ v2) := ((Keeps.of_grown hgrow).mono (by intro k hk; simp at hk ⊢; exact .inr hk)).setCell (.inl (by simp)) _
  have hx6 : RowOf w6 (ps gG) (ov gG) xs := ⟨(hx.1.keeps hk5 (by simp)).keeps hk6 (by simp), hx.2⟩
  obtain ⟨τ3, g3, s3⟩ := g6.append (g := gG) (p := ⟨b, n, es⟩) (F := [g]) hx6 (by rw [upd_same]) (hP.keeps hk6 (by simp)) hB6 hkg (by intro c hc; simp at hc; subst hc; exact ⟨0, t6⟩) hR (by
    rcases hat with e | e
    · exact .inl e
    · exact .inr ⟨_, e, Nat.le_refl _⟩)
  have s4 := s3 [0] (by intro c hc; simp at hc; subst hc; exact ⟨0, by simp, t6⟩)
  refine ⟨⟨τ3, _, _, ⟨g3, Nat.le_trans hB6 s4.below.size, ?_, fun r hr => ?_, s4.fix _ _ t6, ?_, ?_, ?_, fun i => ?_, ?_⟩, (s5.below.trans s6.below).trans s4.below⟩, c3, fz 3⟩
  · rw [upd_same, h.hG]; simp
  · rw [upd_ne _ _ hr, upd_ne _ _ hr]; exact h.oth r hr
  · rw [World.cell?_setCell_other _ _ _ _ (by simp)]
    exact (World.cell?_of_block (w := w) (a := ⟨g, 1, none⟩) e7).trans h.cg1
  · rw [upd_same]; exact World.cell?_setCell_same _ _ _ c3
  · rw [World.cell?_setCell_other _ _ _ _ (by simp)]
    exact (World.cell?_of_block (w := w) (a := ⟨g, 4, none⟩) e7).trans h.cg4
  · rw [World.frozen?_setCell]; exact fz i
  · have : flat (P ++ [⟨b, n, es⟩]) = flat P ++ es := by simp [flat]
    rw [this]; exact htl

end Go.Proofs.Qxb6601127a
