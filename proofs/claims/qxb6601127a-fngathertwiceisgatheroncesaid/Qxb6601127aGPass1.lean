import Derived.Test.Qxb6601127aGRange
import Derived.Test.Qxb6601127aGL1
namespace Go.Proofs.Qxb6601127a
open Go.RowKit
set_option linter.unusedVariables false
set_option linter.unusedSimpArgs false

/-- what the ranges hold -/
def Cont (ps : Nat → List (Option Part)) (sh r : Nat) (ds : List Edge) : Prop := ∃ P : List Part, ps r = P.map some ∧ flat P = rgE sh r ds ∧ ∀ p ∈ P, p.es ≠ [] ∧ p.cap ≤ 512

/-- the state of the first pass when the edges ds have been spread, those of dl counted off -/
structure P1 (w : World) (B : Nat) (τ : Nat → Role) (ps : Nat → List (Option Part)) (ov : Nat → Value) (rb lf spb R sh : Nat) (E ds dl : List Edge) (M : Nat) : Prop where
  gi : GI w B τ ps ov
  rg : w.rowIs rb 64 R ov
  left : IB w lf R (fun r => ((rgE sh r E).length : Int) - ((rgE sh r dl).length : Int))
  box : Blk w spb [ov gS] 85
  spare : SpareOK (ps gS)
  slen : (ps gS).length ≤ M
  cont : ∀ r, r < R → Cont ps sh r ds
  t4 : τ rb = .fix 4
  t5 : τ lf = .fix 5
  t6 : τ spb = .fix 6

/-- a stretch that writes none of the three -/
theorem P1.step {w w' : World} {B : Nat} {τ : Nat → Role} {ps : Nat → List (Option Part)} {ov : Nat → Value} {rb lf spb R sh : Nat} {E ds dl : List Edge} {M : Nat} (h : P1 w B τ ps ov rb lf spb R sh E ds dl M) {τ' : Nat → Role}
    (hg : GI w' B τ' ps ov) (hs : Step B [] w τ w' τ') : P1 w' B τ' ps ov rb lf spb R sh E ds dl M :=
  ⟨hg, h.rg.of_block (hs.same rb 4 h.t4 (by simp)), h.left.of_block (hs.same lf 5 h.t5 (by simp)), h.box.of_block (hs.same spb 6 h.t6 (by simp)), h.spare, h.slen, h.cont, hs.fix _ _ h.t4, hs.fix _ _ h.t5, hs.fix _ _ h.t6⟩

/-- the same, and the last part of range r has room -/
structure P1R (w : World) (B : Nat) (τ : Nat → Role) (ps : Nat → List (Option Part)) (ov : Nat → Value) (rb lf spb R sh : Nat) (E ds : List Edge) (M : Nat) (r : Nat) (P : List Part) (p : Part) : Prop where
  gi : GI w B τ ps ov
  rg : w.rowIs rb 64 R ov
  left : IB w lf R (fun r => ((rgE sh r E).length : Int) - ((rgE sh r ds).length : Int))
  box : Blk w spb [ov gS] 85
  spare : SpareOK (ps gS)
  slen : (ps gS).length ≤ M
  cont : ∀ r', r' < R → r' ≠ r → Cont ps sh r' ds
  last : ps r = P.map some ++ [some p]
  holds : flat P ++ p.es = rgE sh r ds
  full : ∀ p ∈ P, p.es ≠ [] ∧ p.cap ≤ 512
  room : p.es.length < p.cap
  pcap : p.cap ≤ 512
  t4 : τ rb = .fix 4
  t5 : τ lf = .fix 5
  t6 : τ spb = .fix 6

theorem flat_len {P : List Part} (h : ∀ p ∈ P, p.es ≠ [] ∧ p.cap ≤ 512) : P.length ≤ (flat P).length := by
  induction P with
  | nil => simp [flat]
  | cons p P ih =>
    have h1 := ih (fun q hq => h q (List.mem_cons_of_mem _ hq))
    have h2 := (h p List.mem_cons_self).1
    have h3 : 0 < p.es.length := List.length_pos_iff.2 h2
    simp [flat] at *
    omega

/-- the last part has room as it is -/
theorem P1.toR {w : World} {B : Nat} {τ : Nat → Role} {ps : Nat → List (Option Part)} {ov : Nat → Value} {rb lf spb R sh : Nat} {E ds : List Edge} {M : Nat} (h : P1 w B τ ps ov rb lf spb R sh E ds ds M) {r : Nat} {P : List Part} {p : Part}
    (hp : ps r = (P ++ [p]).map some) (hh : flat (P ++ [p]) = rgE sh r ds) (hf : ∀ q ∈ P ++ [p], q.es ≠ [] ∧ q.cap ≤ 512) (hr : p.es.length < p.cap) : P1R w B τ ps ov rb lf spb R sh E ds M r P p :=
  ⟨h.gi, h.rg, h.left, h.box, h.spare, h.slen, fun r' h1 _ => h.cont r' h1, by rw [hp]; simp, by rw [← hh]; simp [flat], fun q hq => hf q (by simp [hq]), hr, (hf p (by simp)).2, h.t4, h.t5, h.t6⟩

/-- a new part behind the last of range r -/
theorem P1.take {w w1 w1' w3 : World} {B : Nat} {τ τ1 : Nat → Role} {ps ps1 : Nat → List (Option Part)} {ov ov1 : Nat → Value} {rb lf spb R sh : Nat} {E ds : List Edge} {M : Nat} (h : P1 w B τ ps ov rb lf spb R sh E ds ds M) (hB : B ≤ w.heap.size) {r : Nat} (hr : r < R) (hR : R ≤ 1024)
    {P : List Part} (hP : ps r = P.map some) (hh : flat P = rgE sh r ds) (hf : ∀ q ∈ P, q.es ≠ [] ∧ q.cap ≤ 512)
    {n b : Nat} (hn : 0 < n) (hn5 : n ≤ 512) (hT : Took w B τ ps ov spb n b w1 τ1 ps1 ov1) (hk1 : Keeps [] w1 w1') {v2 : Value} {xs : List Value} (hx : RowOf w1 (ps1 r) (ov1 r) xs)
    {w2 : World} (hown : w2.ownsRow 0 68 1 v2 (xs.length + 1) (xs ++ [.slice (some ⟨b, 0, none⟩) 0 n])) (hgrow : w1'.grownBy w2 (ov1 r).ownBlock) (hat : v2.ownBlock = (ov1 r).ownBlock ∨ v2.ownBlock = some w1'.heap.size)
    (hw3 : w3 = w2.setCell ⟨rb, r, none⟩ v2) :
    ∃ τ3 ps3 ov3, P1R w3 B τ3 ps3 ov3 rb lf spb R sh E ds M r P ⟨b, n, []⟩ ∧ Step B [4, 6] w τ w3 τ3 ∧ ps3 gG = ps gG ∧ ov3 gG = ov gG := by
  have hrS : r ≠ gS := by unfold gS; omega
  have hrG : gG ≠ r := by unfold gG; omega
  have hGS : gG ≠ gS := by unfold gG gS; omega
  obtain ⟨hpr, hor⟩ := hT.other r hrS
  have hB1 : B ≤ w1.heap.size := Nat.le_trans hB hT.step.below.size
  obtain ⟨g1, s1⟩ := hT.gi.step hB1 hk1 (K := []) (by simp)
  have hB1' : B ≤ w1'.heap.size := Nat.le_trans hB1 hk1.size
  have t4 : τ1 rb = .fix 4 := hT.step.fix _ _ h.t4
  have t5 : τ1 lf = .fix 5 := hT.step.fix _ _ h.t5
  have t6 : τ1 spb = .fix 6 := hT.step.fix _ _ h.t6
  have hkg : Keeps ([rb] ++ (ov1 r).ownBlock.toList) w1' w3 := by
    subst hw3
    exact ((Keeps.of_grown hgrow).mono (by intro k hk; simp at hk ⊢; exact .inr hk)).setCell (.inl (by simp)) _
  have hvb : ∀ g, v2.ownBlock = some g → g ≠ rb := by
    rintro g hg rfl
    rcases hat with e | e
    · rw [e] at hg; have := g1.out r _ hg; rw [t4] at this; cases this
    · rw [e] at hg; cases hg
      have := (live_lt g1 t4 (by simp)).2
      omega
  have hR3 : Row w3 v2 (xs ++ [Part.val ⟨b, n, []⟩]) := by
    subst hw3
    have hr2 : Row w2 v2 (xs ++ [Part.val ⟨b, n, []⟩]) := by unfold Row; rw [List.length_append]; exact hown
    exact hr2.of_blocks fun g hg => Below.heap_setCell _ _ _ _ (hvb g hg)
  have hx' : RowOf w1' (ps1 r) (ov1 r) xs := ⟨hx.1.keeps hk1 (by simp), hx.2⟩
  have hP1 : PartAt w1' b n [] := hT.part.keeps hk1 (by simp)
  obtain ⟨τ3, g3, s3⟩ := g1.append (g := r) (p := ⟨b, n, []⟩) (F := [rb]) hx' hT.loose hP1 hB1' hkg (by intro c hc; simp at hc; subst hc; exact ⟨4, t4⟩) hR3 (by
    rcases hat with e | e
    · exact .inl e
    · exact .inr ⟨_, e, Nat.le_refl _⟩)
  have s4 := s3 [4] (by intro c hc; simp at hc; subst hc; exact ⟨4, by simp, t4⟩)
  have hrb2 : w2.heap[rb]? = w.heap[rb]? := by
    have e1 : w2.heap[rb]? = w1'.heap[rb]? := by
      refine hgrow.block rb (live_lt g1 t4 (by simp)).2 (fun e => ?_)
      have := g1.out r rb e.symm; rw [t4] at this; cases this
    rw [e1, s1.same rb 4 t4 (by simp), hT.step.same rb 4 h.t4 (by simp)]
  have hblk : ∀ b k, τ b = .fix k → k ≠ 4 → k ≠ 6 → w3.heap[b]? = w.heap[b]? := by
    intro b k hb h4 h6
    have hb1 := hT.step.fix _ _ hb
    rw [s4.same b k hb1 (by simp [h4]), s1.same b k hb1 (by simp), hT.step.same b k hb (by simp [h6])]
  have hstep : Step B [4, 6] w τ w3 τ3 := ((hT.step.mono (by simp)).trans (s1.mono (by simp))).trans (s4.mono (by simp))
  refine ⟨τ3, _, _, ⟨g3, ?_, ?_, ?_, ?_, ?_, ?_, ?_, ?_, hf, hn, hn5, s4.fix _ _ t4, s4.fix _ _ t5, s4.fix _ _ t6⟩, hstep, ?_, ?_⟩
  · subst hw3
    refine World.rowIs.congr (World.rowIs.set (World.rowIs.of_block h.rg hrb2) r v2) (fun j hj => ?_)
    by_cases e : j = r
    · subst e; rw [upd_same]; simp
    · rw [upd_ne _ _ e, (hT.other j (by unfold gS; omega)).2]; simp [e]
  · exact h.left.of_block (hblk lf 5 h.t5 (by omega) (by omega))
  · rw [upd_ne _ _ hrS.symm]
    exact (hT.box.of_block (s1.same spb 6 t6 (by simp))).of_block (s4.same spb 6 t6 (by simp))
  · rw [upd_ne _ _ hrS.symm]; exact hT.spare
  · rw [upd_ne _ _ hrS.symm]; exact Nat.le_trans hT.len h.slen
  · intro r' h1 h2
    obtain ⟨P', a1, a2, a3⟩ := h.cont r' h1
    exact ⟨P', by rw [upd_ne _ _ h2, (hT.other r' (by unfold gS; omega)).1]; exact a1, a2, a3⟩
  · rw [upd_same, hpr, hP]
  · simp [hh]
  · rw [upd_ne _ _ hrG]; exact (hT.other gG hGS).1
  · rw [upd_ne _ _ hrG]; exact (hT.other gG hGS).2

/-- the edge e goes into the last part of its range -/
theorem P1R.push {w w' : World} {B : Nat} {τ : Nat → Role} {ps : Nat → List (Option Part)} {ov : Nat → Value} {rb lf spb R sh : Nat} {E ds : List Edge} {M r : Nat} {P : List Part} {p : Part} (h : P1R w B τ ps ov rb lf spb R sh E ds M r P p) (hB : B ≤ w.heap.size) (hr : r < R) (hR : R ≤ 1024)
    {e : Edge} (he : e.1.toNat / 2 ^ sh = r) {xs : List Value} {ob : Nat} (hx : RowOf w (ps r) (ov r) xs) (hob : (ov r).ownBlock = some ob)
    (hk : Keeps [p.b, ob] w w') (hP : PartAt w' p.b p.cap (p.es ++ [e])) (hRow : Row w' (ov r) (xs.set P.length (Part.val ⟨p.b, p.cap, p.es ++ [e]⟩))) :
    ∃ ps', P1 w' B τ ps' ov rb lf spb R sh E (ds ++ [e]) ds M ∧ Step B [] w τ w' τ ∧ ps' gG = ps gG := by
  have hrS : gS ≠ r := by unfold gS; omega
  have hrG : gG ≠ r := by unfold gG; omega
  have hi : (ps r)[P.length]? = some (some p) := by rw [h.last]; simp
  obtain ⟨g1, s1⟩ := h.gi.push (p' := ⟨p.b, p.cap, p.es ++ [e]⟩) hi rfl hx hob hB hk hP hRow
  refine ⟨_, ⟨g1, h.rg.of_block (s1.same _ _ h.t4 (by simp)), h.left.of_block (s1.same _ _ h.t5 (by simp)), h.box.of_block (s1.same _ _ h.t6 (by simp)), ?_, ?_, ?_, h.t4, h.t5, h.t6⟩, s1, ?_⟩
  · rw [upd_ne _ _ hrS]; exact h.spare
  · rw [upd_ne _ _ hrS]; exact h.slen
  · intro r' h1
    by_cases e1 : r' = r
    · subst e1
      refine ⟨P ++ [⟨p.b, p.cap, p.es ++ [e]⟩], ?_, ?_, ?_⟩
      · rw [upd_same, h.last]
        rw [List.set_append_right _ _ (by simp)]
        simp
      · rw [rgE_snoc, if_pos he, ← h.holds]; simp [flat]
      · intro q hq
        rw [List.mem_append] at hq
        rcases hq with hq | hq
        · exact h.full q hq
        · simp at hq; subst hq; exact ⟨by simp, h.pcap⟩
    · obtain ⟨P', a1, a2, a3⟩ := h.cont r' h1 e1
      refine ⟨P', by rw [upd_ne _ _ e1]; exact a1, ?_, a3⟩
      rw [rgE_snoc, if_neg (by omega)]; simpa using a2
  · rw [upd_ne _ _ hrG]

/-- and its range's number goes down by one -/
theorem P1.count {w : World} {B : Nat} {τ : Nat → Role} {ps : Nat → List (Option Part)} {ov : Nat → Value} {rb lf spb R sh : Nat} {E ds : List Edge} {M r : Nat} {e : Edge} (h : P1 w B τ ps ov rb lf spb R sh E (ds ++ [e]) ds M) (hB : B ≤ w.heap.size) (hr : r < R) (he : e.1.toNat / 2 ^ sh = r)
    {x : Int} (hx : x = ((rgE sh r E).length : Int) - ((rgE sh r ds).length : Int) - 1) :
    P1 (w.setCell ⟨lf, r, none⟩ (.int .i64 x)) B τ ps ov rb lf spb R sh E (ds ++ [e]) (ds ++ [e]) M ∧ Step B [5] w τ (w.setCell ⟨lf, r, none⟩ (.int .i64 x)) τ := by
  have hk : Keeps [lf] w (w.setCell ⟨lf, r, none⟩ (.int .i64 x)) := (Keeps.refl _ _).setCell (.inl (by simp)) _
  obtain ⟨g1, s1⟩ := h.gi.step hB hk (K := [5]) (by intro c hc; simp at hc; subst hc; exact ⟨5, by simp, h.t5⟩)
  refine ⟨⟨g1, h.rg.of_block (s1.same _ _ h.t4 (by simp)), ?_, h.box.of_block (s1.same _ _ h.t6 (by simp)), h.spare, h.slen, h.cont, h.t4, h.t5, h.t6⟩, s1⟩
  refine (h.left.set r x).congr fun j hj => ?_
  by_cases e1 : j = r
  · subst e1
    rw [if_pos rfl, rgE_snoc, if_pos he, hx]; simp; omega
  · rw [if_neg e1, rgE_snoc, if_neg (by omega)]; simp

end Go.Proofs.Qxb6601127a
