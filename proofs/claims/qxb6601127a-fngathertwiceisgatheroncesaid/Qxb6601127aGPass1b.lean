import Derived.Test.Qxb6601127aGPass1
namespace Go.Proofs.Qxb6601127a
open Go.RowKit
set_option linter.unusedVariables false
set_option linter.unusedSimpArgs false

/-- a part is let go and its cell of the outer row is written over -/
theorem GI.drop {w : World} {B : Nat} {τ : Nat → Role} {ps : Nat → List (Option Part)} {ov : Nat → Value} (h : GI w B τ ps ov) (hB : B ≤ w.heap.size) {g i : Nat} {p : Part} (hp : (ps g)[i]? = some (some p)) {ob n cp : Nat} (hv : ov g = .slice (some ⟨ob, 0, none⟩) n cp) (v : Value) :
    GI (w.setCell ⟨ob, i, none⟩ v) B (upd τ p.b .loose) (upd ps g ((ps g).set i none)) ov ∧ Step B [] w τ (w.setCell ⟨ob, i, none⟩ v) (upd τ p.b .loose) ∧ upd τ p.b .loose p.b = .loose ∧ PartAt (w.setCell ⟨ob, i, none⟩ v) p.b p.cap p.es := by
  obtain ⟨hD, hS, hl, hP⟩ := h.disown hp
  have hob : (ov g).ownBlock = some ob := by rw [hv]; rfl
  have tob := hD.out g ob hob
  have hk : Keeps [ob] w (w.setCell ⟨ob, i, none⟩ v) := (Keeps.refl _ _).setCell (.inl (by simp)) _
  have hil : i < (ps g).length := by
    rcases Nat.lt_or_ge i (ps g).length with h1 | h1
    · exact h1
    · rw [List.getElem?_eq_none h1] at hp; cases hp
  refine ⟨⟨fun g' => ?_, fun g' j q hq => ?_, hD.out, fun b hb => ?_⟩, ⟨?_, hS.fix, fun b k hb hn => ?_⟩, hl, ?_⟩
  · obtain ⟨xs, h1, h2, h3⟩ := hD.row g'
    by_cases hg : g' = g
    · subst hg
      rw [upd_same] at h2 h3 ⊢
      rw [hv] at h1 ⊢
      refine ⟨xs.set i v, h1.set (by rw [h2, List.length_set]; exact hil) v, by rw [List.length_set]; exact h2, fun j q hq => ?_⟩
      by_cases hj : j = i
      · subst hj; rw [List.getElem?_set_self hil] at hq; cases hq
      · rw [List.getElem?_set_ne (fun e => hj e.symm)]; exact h3 j q hq
    · refine ⟨xs, h1.keeps hk (fun b hb hm => ?_), h2, h3⟩
      simp at hm; subst hm
      have := hD.out g' _ hb
      rw [tob] at this; cases this; exact hg rfl
  · obtain ⟨h1, h2⟩ := hD.part g' j q hq
    refine ⟨h1.keeps hk (fun hm => ?_), h2⟩
    simp at hm; rw [hm, tob] at h2; cases h2
  · have := hD.live b hb
    have := hk.size
    omega
  · refine hk.below hB (fun b hb => ?_)
    simp at hb; subst hb
    exact (live_lt hD tob (by simp)).1
  · refine hk.block b (live_lt h hb (by simp)).2 (fun hm => ?_)
    simp at hm; subst hm
    rw [h.out g _ hob] at hb; cases hb
  · refine hP.keeps hk (fun hm => ?_)
    simp at hm
    have := h.out g ob hob
    rw [← hm, (h.part g i p hp).2] at this; cases this

/-- a stretch that turns the graph's group alone -/
theorem P1.step2 {w w' : World} {B : Nat} {τ : Nat → Role} {ps ps' : Nat → List (Option Part)} {ov : Nat → Value} {rb lf spb R sh : Nat} {E ds dl : List Edge} {M : Nat} (h : P1 w B τ ps ov rb lf spb R sh E ds dl M) (hR : R ≤ 1024) {τ' : Nat → Role}
    (hg : GI w' B τ' ps' ov) (hs : Step B [] w τ w' τ') (hps : ∀ g, g ≠ gG → ps' g = ps g) : P1 w' B τ' ps' ov rb lf spb R sh E ds dl M := by
  have hSG : gS ≠ gG := by unfold gS gG; omega
  refine ⟨hg, h.rg.of_block (hs.same rb 4 h.t4 (by simp)), h.left.of_block (hs.same lf 5 h.t5 (by simp)), h.box.of_block (hs.same spb 6 h.t6 (by simp)), by rw [hps gS hSG]; exact h.spare, by rw [hps gS hSG]; exact h.slen, fun r hr => ?_, hs.fix _ _ h.t4, hs.fix _ _ h.t5, hs.fix _ _ h.t6⟩
  obtain ⟨P, a1, a2⟩ := h.cont r hr
  exact ⟨P, by rw [hps r (by unfold gG; omega)]; exact a1, a2⟩

theorem P1.gave {w w' : World} {B : Nat} {τ τ' : Nat → Role} {ps ps' : Nat → List (Option Part)} {ov ov' : Nat → Value} {rb lf spb R sh : Nat} {E ds dl : List Edge} {M : Nat} (h : P1 w B τ ps ov rb lf spb R sh E ds dl M) (hR : R ≤ 1024)
    (hG : Gave w B τ ps ov spb w' τ' ps' ov') : P1 w' B τ' ps' ov' rb lf spb R sh E ds dl (M + 1) := by
  refine ⟨hG.gi, ?_, h.left.of_block (hG.step.same lf 5 h.t5 (by simp)), hG.box, hG.spare, Nat.le_trans hG.len (Nat.succ_le_succ h.slen), fun r hr => ?_, hG.step.fix _ _ h.t4, hG.step.fix _ _ h.t5, hG.step.fix _ _ h.t6⟩
  · exact World.rowIs.congr (World.rowIs.of_block h.rg (hG.step.same rb 4 h.t4 (by simp))) fun r hr => (hG.other r (by unfold gS; omega)).2.symm
  · obtain ⟨P, a1, a2⟩ := h.cont r hr
    exact ⟨P, by rw [(hG.other r (by unfold gS; omega)).1]; exact a1, a2⟩

end Go.Proofs.Qxb6601127a
