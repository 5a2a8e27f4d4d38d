import Derived.Test.Qxb6601127aGPass2
namespace Go.Proofs.Qxb6601127a
open Go.RowKit
set_option linter.unusedVariables false
set_option linter.unusedSimpArgs false

theorem P2.more {w : World} {B : Nat} {τ : Nat → Role} {ps : Nat → List (Option Part)} {ov : Nat → Value} {rb fb spb R N : Nat} {E pr dl : List Edge} {PL : List Part} {M M' : Nat} (h : P2 w B τ ps ov rb fb spb R N E pr dl PL M) (hM : M ≤ M') : P2 w B τ ps ov rb fb spb R N E pr dl PL M' :=
  ⟨h.gi, h.rg, h.free, h.box, h.spare, Nat.le_trans h.slen hM, h.pl, h.ch, h.placed, h.t4, h.t6, h.t7⟩

/-- a new part behind the last of the placed ones -/
theorem P2.extend {w w1 w1' w2 : World} {B : Nat} {τ τ1 : Nat → Role} {ps ps1 : Nat → List (Option Part)} {ov ov1 : Nat → Value} {rb fb spb R N : Nat} {E pr dl : List Edge} {PL : List Part} {M : Nat} (h : P2 w B τ ps ov rb fb spb R N E pr dl PL M) (hB : B ≤ w.heap.size) (hR : R ≤ 1024)
    {n b : Nat} (hn : n = min 512 (E.length - 512 * PL.length)) (hT : Took w B τ ps ov spb n b w1 τ1 ps1 ov1) (hk1 : Keeps [] w1 w1') {v2 : Value} {xs : List Value} (hx : RowOf w1 (ps1 gP) (ov1 gP) xs)
    (hown : w2.ownsRow 0 68 1 v2 (xs.length + 1) (xs ++ [.slice (some ⟨b, 0, none⟩) n n])) (hgrow : w1'.grownBy w2 (ov1 gP).ownBlock) (hat : v2.ownBlock = (ov1 gP).ownBlock ∨ v2.ownBlock = some w1'.heap.size) :
    ∃ τ3 ps3 ov3 PL3, P2 w2 B τ3 ps3 ov3 rb fb spb R N E pr dl PL3 M ∧ Step B [6] w τ w2 τ3 ∧ (∀ g, g ≠ gP → g ≠ gS → ps3 g = ps g ∧ ov3 g = ov g) ∧ ov3 gP = v2 ∧ PL3.length = PL.length + 1 := by
  have hPS : gP ≠ gS := by unfold gP gS; omega
  obtain ⟨hpr, hor⟩ := hT.other gP hPS
  have hB1 : B ≤ w1.heap.size := Nat.le_trans hB hT.step.below.size
  obtain ⟨g1, s1⟩ := hT.gi.step hB1 hk1 (K := []) (by simp)
  have hB1' : B ≤ w1'.heap.size := Nat.le_trans hB1 hk1.size
  have t4 : τ1 rb = .fix 4 := hT.step.fix _ _ h.t4
  have t7 : τ1 fb = .fix 7 := hT.step.fix _ _ h.t7
  have t6 : τ1 spb = .fix 6 := hT.step.fix _ _ h.t6
  have hkg : Keeps ([] ++ (ov1 gP).ownBlock.toList) w1' w2 := (Keeps.of_grown hgrow).mono (by intro k hk; simp at hk ⊢; exact hk)
  obtain ⟨fs, hfl, hPf⟩ := hT.part.grow (n := n) (by simp)
  simp at hfl
  have hval : Part.val ⟨b, n, fs⟩ = .slice (some ⟨b, 0, none⟩) n n := by unfold Part.val; simp [hfl]
  have hR3 : Row w2 v2 (xs ++ [Part.val ⟨b, n, fs⟩]) := by unfold Row; rw [List.length_append, hval]; exact hown
  have hx' : RowOf w1' (ps1 gP) (ov1 gP) xs := ⟨hx.1.keeps hk1 (by simp), hx.2⟩
  have hP1 : PartAt w1' b n fs := hPf.keeps hk1 (by simp)
  obtain ⟨τ3, g3, s3⟩ := g1.append (g := gP) (p := ⟨b, n, fs⟩) (F := []) hx' hT.loose hP1 hB1' hkg (by simp) hR3 (by
    rcases hat with e | e
    · exact .inl e
    · exact .inr ⟨_, e, Nat.le_refl _⟩)
  have s4 := s3 [] (by simp)
  have hblk : ∀ b k, τ b = .fix k → k ≠ 6 → w2.heap[b]? = w.heap[b]? := by
    intro b k hb h6
    have hb1 := hT.step.fix _ _ hb
    rw [s4.same b k hb1 (by simp), s1.same b k hb1 (by simp), hT.step.same b k hb (by simp [h6])]
  have hstep : Step B [6] w τ w2 τ3 := (hT.step.trans (s1.mono (by simp))).trans (s4.mono (by simp))
  refine ⟨τ3, _, _, PL ++ [⟨b, n, fs⟩], ⟨g3, ?_, h.free.of_block (hblk fb 7 h.t7 (by omega)), ?_, ?_, ?_, ?_, h.ch.snoc (by rw [hfl]; exact hn), ?_, s4.fix _ _ t4, s4.fix _ _ t6, s4.fix _ _ t7⟩, hstep, fun g e1 e2 => ?_, upd_same _ _ _, by simp⟩
  · refine World.rowIs.congr (World.rowIs.of_block h.rg (hblk rb 4 h.t4 (by omega))) (fun j hj => ?_)
    rw [upd_ne _ _ (by unfold gP; omega), (hT.other j (by unfold gS; omega)).2]
  · rw [upd_ne _ _ hPS.symm]
    exact (hT.box.of_block (s1.same spb 6 t6 (by simp))).of_block (s4.same spb 6 t6 (by simp))
  · rw [upd_ne _ _ hPS.symm]; exact hT.spare
  · rw [upd_ne _ _ hPS.symm]; exact Nat.le_trans hT.len h.slen
  · rw [upd_same, hpr, h.pl]; simp
  · have : flat (PL ++ [⟨b, n, fs⟩]) = flat PL ++ fs := by simp [flat]
    rw [this]; exact h.placed.grow fs
  · rw [upd_ne _ _ e1, upd_ne _ _ e1]; exact hT.other g e2


/-- a group is forgotten -/
theorem GI.clear {w : World} {B : Nat} {τ : Nat → Role} {ps : Nat → List (Option Part)} {ov : Nat → Value} (h : GI w B τ ps ov) (g : Nat) : GI w B τ (upd ps g []) (upd ov g (.slice none 0 0)) := by
  refine ⟨fun g' => ?_, fun g' i p hp => ?_, fun g' b hb => ?_, h.live⟩
  · by_cases e : g' = g
    · subst e; rw [upd_same, upd_same]
      exact ⟨[], Row.nil w, rfl, fun i p hp => by simp at hp⟩
    · rw [upd_ne _ _ e, upd_ne _ _ e]; exact h.row g'
  · by_cases e : g' = g
    · subst e; rw [upd_same] at hp; simp at hp
    · rw [upd_ne _ _ e] at hp; exact h.part g' i p hp
  · by_cases e : g' = g
    · subst e; rw [upd_same] at hb; cases hb
    · rw [upd_ne _ _ e] at hb; exact h.out g' b hb

/-- ranges[r] = nil -/
theorem P2.clear {w : World} {B : Nat} {τ : Nat → Role} {ps : Nat → List (Option Part)} {ov : Nat → Value} {rb fb spb R N : Nat} {E pr dl : List Edge} {PL : List Part} {M : Nat} (h : P2 w B τ ps ov rb fb spb R N E pr dl PL M) (hB : B ≤ w.heap.size) (hR : R ≤ 1024) {r : Nat} (hr : r < R) :
    P2 (w.setCell ⟨rb, r, none⟩ (.slice none 0 0)) B τ (upd ps r []) (upd ov r (.slice none 0 0)) rb fb spb R N E pr dl PL M ∧ Step B [4] w τ (w.setCell ⟨rb, r, none⟩ (.slice none 0 0)) τ := by
  have hk : Keeps [rb] w (w.setCell ⟨rb, r, none⟩ (.slice none 0 0)) := (Keeps.refl _ _).setCell (.inl (by simp)) _
  obtain ⟨g1, s1⟩ := (h.gi.clear r).step hB hk (K := [4]) (by intro c hc; simp at hc; subst hc; exact ⟨4, by simp, h.t4⟩)
  have hrS : gS ≠ r := by unfold gS; omega
  have hrP : gP ≠ r := by unfold gP; omega
  refine ⟨⟨g1, ?_, h.free.of_block (s1.same _ _ h.t7 (by simp)), ?_, ?_, ?_, ?_, h.ch, h.placed, h.t4, h.t6, h.t7⟩, s1⟩
  · refine World.rowIs.congr (World.rowIs.set h.rg r _) (fun j hj => ?_)
    by_cases e : j = r
    · subst e; rw [upd_same]; simp
    · rw [upd_ne _ _ e]; simp [e]
  · rw [upd_ne _ _ hrS]; exact h.box.of_block (s1.same _ _ h.t6 (by simp))
  · rw [upd_ne _ _ hrS]; exact h.spare
  · rw [upd_ne _ _ hrS]; exact h.slen
  · rw [upd_ne _ _ hrP]; exact h.pl

end Go.Proofs.Qxb6601127a
