import Derived.Test.Qxb6601127aGState
namespace Go.Proofs.Qxb6601127a
open Go.RowKit
set_option linter.unusedVariables false
set_option linter.unusedSimpArgs false

/-- part i of group g is let go -/
theorem GI.disown {w : World} {B : Nat} {τ : Nat → Role} {ps : Nat → List (Option Part)} {ov : Nat → Value} (h : GI w B τ ps ov) {g i : Nat} {p : Part} (hp : (ps g)[i]? = some (some p)) :
    GI w B (upd τ p.b .loose) (upd ps g ((ps g).set i none)) ov ∧ Step B [] w τ w (upd τ p.b .loose) ∧ upd τ p.b .loose p.b = .loose ∧ PartAt w p.b p.cap p.es := by
  obtain ⟨hP, t1⟩ := h.part g i p hp
  have hil : i < (ps g).length := by
    rcases Nat.lt_or_ge i (ps g).length with h1 | h1
    · exact h1
    · rw [List.getElem?_eq_none h1] at hp; cases hp
  have hkeep : ∀ b, τ b ≠ .pt g i → upd τ p.b .loose b = τ b := by
    intro b hb
    rw [upd_ne]
    rintro rfl; exact hb t1
  refine ⟨⟨fun g' => ?_, fun g' i' q hq => ?_, fun g' b hb => ?_, fun b hb => ?_⟩, ⟨Below.refl _ _, fun b k hb => ?_, fun _ _ _ _ => rfl⟩, upd_same _ _ _, hP⟩
  · by_cases hg : g' = g
    · subst hg
      rw [upd_same]
      obtain ⟨xs, h1, h2, h3⟩ := h.row g'
      refine ⟨xs, h1, by rw [List.length_set]; exact h2, fun j q hq => ?_⟩
      by_cases hj : j = i
      · subst hj; rw [List.getElem?_set_self hil] at hq; cases hq
      · rw [List.getElem?_set_ne (fun e => hj e.symm)] at hq; exact h3 j q hq
    · rw [upd_ne _ _ hg]; exact h.row g'
  · have hq' : (ps g')[i']? = some (some q) ∧ ¬ (g' = g ∧ i' = i) := by
      by_cases hg : g' = g
      · subst hg
        rw [upd_same] at hq
        by_cases hj : i' = i
        · subst hj; rw [List.getElem?_set_self hil] at hq; cases hq
        · rw [List.getElem?_set_ne (fun e => hj e.symm)] at hq; exact ⟨hq, fun h => hj h.2⟩
      · rw [upd_ne _ _ hg] at hq; exact ⟨hq, fun h => hg h.1⟩
    obtain ⟨h1, h2⟩ := h.part _ _ _ hq'.1
    refine ⟨h1, ?_⟩
    rw [hkeep _ (by rw [h2]; intro e; cases e; exact hq'.2 ⟨rfl, rfl⟩)]; exact h2
  · have := h.out g' b hb
    rw [hkeep _ (by rw [this]; simp)]; exact this
  · by_cases hbp : b = p.b
    · subst hbp; exact live_lt h t1 (by simp)
    · rw [upd_ne _ _ hbp] at hb; exact h.live b hb
  · rw [hkeep _ (by rw [hb]; simp)]; exact hb

/-- a new block, loose -/
theorem GI.fresh {w w' : World} {B : Nat} {τ : Nat → Role} {ps : Nat → List (Option Part)} {ov : Nat → Value} (h : GI w B τ ps ov) (hB : B ≤ w.heap.size) {b : Nat} (hk : Keeps [] w w') (hb : w.heap.size ≤ b) (hb' : b < w'.heap.size) (r : Role) (hr : r = .loose ∨ ∃ k, r = .fix k) :
    GI w' B (upd τ b r) ps ov ∧ Step B [] w τ w' (upd τ b r) := by
  have hkeep : ∀ c, τ c ≠ .no → upd τ b r c = τ c := by
    intro c hc
    rw [upd_ne]
    rintro rfl; have := h.live c hc; omega
  refine ⟨⟨fun g => ?_, fun g i p hp => ?_, fun g c hc => ?_, fun c hc => ?_⟩, ⟨hk.below hB (by simp), fun c k hc => ?_, fun c k hc _ => ?_⟩⟩
  · obtain ⟨xs, h1, h2⟩ := h.row g
    exact ⟨xs, h1.keeps hk (by simp), h2⟩
  · obtain ⟨h1, h2⟩ := h.part g i p hp
    refine ⟨h1.keeps hk (by simp), ?_⟩
    rw [hkeep _ (by rw [h2]; simp)]; exact h2
  · have := h.out g c hc
    rw [hkeep _ (by rw [this]; simp)]; exact this
  · by_cases e : c = b
    · subst e; omega
    · rw [upd_ne _ _ e] at hc; have := h.live c hc; have := hk.size; omega
  · rw [hkeep _ (by rw [hc]; simp)]; exact hc
  · exact hk.block c (live_lt h hc (by simp)).2 (by simp)

/-- the last part of group g is taken off its row and is loose -/
theorem GI.pop {w : World} {B : Nat} {τ : Nat → Role} {ps : Nat → List (Option Part)} {ov : Nat → Value} (h : GI w B τ ps ov) {g : Nat} {l : List (Option Part)} {p : Part} {ob n cap : Nat}
    (hg : ps g = l ++ [some p]) (hv : ov g = .slice (some ⟨ob, 0, none⟩) (n + 1) cap) :
    GI w B (upd τ p.b .loose) (upd ps g l) (upd ov g (.slice (some ⟨ob, 0, none⟩) n cap)) ∧ Step B [] w τ w (upd τ p.b .loose) ∧ upd τ p.b .loose p.b = .loose ∧ PartAt w p.b p.cap p.es := by
  have hp : (ps g)[l.length]? = some (some p) := by rw [hg]; simp
  obtain ⟨hD, hS, hl, hP⟩ := h.disown hp
  refine ⟨⟨fun g' => ?_, fun g' i q hq => ?_, fun g' b hb => ?_, hD.live⟩, hS, hl, hP⟩
  · by_cases e : g' = g
    · subst e
      rw [upd_same, upd_same]
      obtain ⟨xs, h1, h2, h3⟩ := h.row g'
      rw [hg] at h2 h3
      rw [hv] at h1
      have hx : xs = xs.take l.length ++ [p.val] := by
        have := h3 l.length p (by simp)
        have e2 := List.take_append_drop l.length xs
        have e3 : xs.drop l.length = [p.val] := by
          apply List.ext_getElem?
          intro j
          rw [List.getElem?_drop]
          cases j with
          | zero => simpa using this
          | succ j => simp at h2; rw [List.getElem?_eq_none (by omega)]; simp
        rw [e3] at e2; exact e2.symm
      rw [hx] at h1
      refine ⟨xs.take l.length, h1.pop, by simp at h2; simp; omega, fun j q hq => ?_⟩
      have hj : j < l.length := by
        rcases Nat.lt_or_ge j l.length with h4 | h4
        · exact h4
        · rw [List.getElem?_eq_none h4] at hq; cases hq
      rw [List.getElem?_take, if_pos hj]
      exact h3 j q (by rw [List.getElem?_append_left hj]; exact hq)
    · rw [upd_ne _ _ e, upd_ne _ _ e]; exact h.row g'
  · refine hD.part g' i q ?_
    by_cases e : g' = g
    · subst e
      rw [upd_same] at hq ⊢
      have hj : i < l.length := by
        rcases Nat.lt_or_ge i l.length with h4 | h4
        · exact h4
        · rw [List.getElem?_eq_none h4] at hq; cases hq
      rw [List.getElem?_set_ne (by omega), hg, List.getElem?_append_left hj]; exact hq
    · rw [upd_ne _ _ e] at hq ⊢; exact hq
  · refine hD.out g' b ?_
    by_cases e : g' = g
    · subst e; rw [upd_same] at hb; rw [hv]; exact hb
    · rw [upd_ne _ _ e] at hb; exact hb

/-- every spare has room for 512 -/
def SpareOK (l : List (Option Part)) : Prop := ∀ x ∈ l, ∃ p : Part, x = some p ∧ p.cap = 512

/-- what take leaves -/
structure Took (w : World) (B : Nat) (τ : Nat → Role) (ps : Nat → List (Option Part)) (ov : Nat → Value) (spb n : Nat) (b : Nat) (w' : World) (τ' : Nat → Role) (ps' : Nat → List (Option Part)) (ov' : Nat → Value) : Prop where
  gi : GI w' B τ' ps' ov'
  step : Step B [6] w τ w' τ'
  loose : τ' b = .loose
  part : PartAt w' b n []
  box : Blk w' spb [ov' gS] 85
  other : ∀ g, g ≠ gS → ps' g = ps g ∧ ov' g = ov g
  spare : SpareOK (ps' gS)
  len : (ps' gS).length ≤ (ps gS).length

theorem take_GI {w : World} {B : Nat} {τ : Nat → Role} {ps : Nat → List (Option Part)} {ov : Nat → Value} (spb n : Nat) (hn : n ≤ 512) (hB : B ≤ w.heap.size) (H : Hid (GI w B τ ps ov)) (HS : Hid (SpareOK (ps gS)))
    (hlen : (ps gS).length ≤ 1048576) (HB : Hid (Blk w spb [ov gS] 85)) (hsp : τ spb = .fix 6) :
    Calls Try.prog 37 #[.pointer (some ⟨spb, 0, none⟩), .int .i64 (n : Int)] w fun e w' => ∃ b, e = .returned (.slice (some ⟨b, 0, none⟩) 0 n) ∧ ∃ τ' ps' ov', Took w B τ ps ov spb n b w' τ' ps' ov' := by
  obtain ⟨xs, hr, hxl, hxp⟩ := H.out.row gS
  by_cases hc : n = 512 ∧ 0 < (ps gS).length
  · obtain ⟨rfl, hpos⟩ := hc
    obtain ⟨l, x, hlx⟩ : ∃ l x, ps gS = l ++ [x] := by
      have hne : ps gS ≠ [] := by intro e; rw [e] at hpos; simp at hpos
      exact ⟨_, _, (List.dropLast_concat_getLast hne).symm⟩
    obtain ⟨p, rfl, hp5⟩ := HS.out x (by rw [hlx]; simp)
    obtain ⟨ob, cap, hv, hcap, hcap', hcell, _, _⟩ := hr.len (by omega)
    have hk : xs.length = l.length + 1 := by rw [hxl, hlx]; simp
    rw [hk] at hv hcap
    have hxp' := hxp l.length p (by rw [hlx]; simp)
    have hc0 := hcell l.length _ hxp'
    unfold Part.val at hc0
    rw [hp5] at hc0
    have hpart := H.out.part gS l.length p (by rw [hlx]; simp)
    have hle := hpart.1.le
    rw [hp5] at hle
    have hll : l.length ≤ 1048576 := by rw [hxl] at hk; omega
    refine (take_spare spb ob l.length cap p.b p.es.length w hll hcap hcap' (by rw [← hv]; exact HB) hle hc0).mono ?_
    rintro e w' ⟨rfl, rfl⟩
    refine ⟨p.b, rfl, ?_⟩
    obtain ⟨g1, g2, g3, g4⟩ := H.out.pop hlx hv
    have hsp' : upd τ p.b .loose spb = .fix 6 := g2.fix spb 6 hsp
    have hkk : Keeps [spb] w (w.setCell ⟨spb, 0, none⟩ (.slice (some ⟨ob, 0, none⟩) l.length cap)) := (Keeps.refl [spb] w).setCell (.inl (by simp)) _
    obtain ⟨g5, g6⟩ := g1.step hB hkk (K := [6]) (by intro b hb; simp at hb; subst hb; exact ⟨6, by simp, hsp'⟩)
    refine ⟨_, _, _, g5, (g2.mono (by simp)).trans g6, g3, ?_, ?_, ?_, ?_, ?_⟩
    · have := (g4.keeps hkk (by simp; intro e; have := hpart.2; rw [e, hsp] at this; cases this)).cut 0
      rw [hp5] at this; simpa using this
    · rw [upd_same]; simpa using HB.out.set 0 _
    · intro g hg; exact ⟨upd_ne _ _ hg, upd_ne _ _ hg⟩
    · rw [upd_same]; intro x hx; exact HS.out x (by rw [hlx]; simp [hx])
    · rw [upd_same, hlx]; simp
  · have hv : ∃ oa k cap, ov gS = .slice oa k cap ∧ k = (ps gS).length := by
      rcases hr.2 with ⟨h1, h2⟩ | ⟨g, cap, cur, h1, _⟩
      · exact ⟨_, _, _, h1, by omega⟩
      · exact ⟨_, _, _, h1, hxl⟩
    obtain ⟨oa, k, cap, hv, rfl⟩ := hv
    refine (take_new spb oa (ps gS).length cap n w hn (by rw [← hv]; exact HB) hlen (by omega)).mono ?_
    rintro e w' ⟨rfl, rfl⟩
    refine ⟨w.heap.size, rfl, ?_⟩
    have hk0 : Keeps [] w (w.alloc (.cells (zs3 n).toArray 70)) := (Keeps.refl [] w).alloc _
    obtain ⟨g1, g2⟩ := H.out.fresh hB hk0 (Nat.le_refl _) (by simp) .loose (.inl rfl)
    exact ⟨_, _, _, g1, g2.mono (by simp), upd_same _ _ _, PartAt.made w n, HB.out.alloc _, fun g _ => ⟨rfl, rfl⟩, HS.out, Nat.le_refl _⟩

/-- what give leaves -/
structure Gave (w : World) (B : Nat) (τ : Nat → Role) (ps : Nat → List (Option Part)) (ov : Nat → Value) (spb : Nat) (w' : World) (τ' : Nat → Role) (ps' : Nat → List (Option Part)) (ov' : Nat → Value) : Prop where
  gi : GI w' B τ' ps' ov'
  step : Step B [6] w τ w' τ'
  box : Blk w' spb [ov' gS] 85
  other : ∀ g, g ≠ gS → ps' g = ps g ∧ ov' g = ov g
  spare : SpareOK (ps' gS)
  len : (ps' gS).length ≤ (ps gS).length + 1

theorem give_GI {w : World} {B : Nat} {τ : Nat → Role} {ps : Nat → List (Option Part)} {ov : Nat → Value} (spb b l cap : Nat) (es : List Edge) (hB : B ≤ w.heap.size) (H : Hid (GI w B τ ps ov)) (HS : Hid (SpareOK (ps gS)))
    (hlen : (ps gS).length ≤ 1048576) (HB : Hid (Blk w spb [ov gS] 85)) (hsp : τ spb = .fix 6) (HP : Hid (PartAt w b cap es)) (hl : l = es.length) (hb : τ b = .loose) :
    Calls Try.prog 38 #[.pointer (some ⟨spb, 0, none⟩), .slice (some ⟨b, 0, none⟩) l cap] w fun e w' => e = .returned (.tuple #[]) ∧ ∃ τ' ps' ov', Gave w B τ ps ov spb w' τ' ps' ov' := by
  by_cases hc : cap = 512
  · subst hc
    obtain ⟨xs, hx⟩ := H.out.rowOf gS
    have hle := HP.out.le
    have hne : (ov gS).ownBlock ≠ some spb := by intro e; have := H.out.out _ _ e; rw [hsp] at this; cases this
    refine (give_yes spb b l (ov gS) xs w (by rw [hx.2.1]; exact hlen) (by omega) hne HB (hidG hx.1)).mono ?_
    rintro e w' ⟨rfl, sv', h1, h2, h3, h4⟩
    refine ⟨rfl, ?_⟩
    obtain ⟨τ', g1, g2⟩ := H.out.append (g := gS) (p := ⟨b, 512, []⟩) (F := [spb]) hx hb (by simpa using HP.out.cut 0) hB h3 (by intro c hc; simp at hc; subst hc; exact ⟨6, hsp⟩) h2 h4
    refine ⟨τ', _, _, g1, g2 [6] (by intro c hc; simp at hc; subst hc; exact ⟨6, by simp, hsp⟩), ?_, ?_, ?_, ?_⟩
    · rw [upd_same]; exact h1
    · intro g hg; exact ⟨upd_ne _ _ hg, upd_ne _ _ hg⟩
    · rw [upd_same]
      intro x hx
      rw [List.mem_append] at hx
      rcases hx with hx | hx
      · exact HS.out x hx
      · simp at hx; exact ⟨_, hx, rfl⟩
    · rw [upd_same]; simp
  · refine (give_not spb _ l cap w (by simp; omega)).mono ?_
    rintro e w' ⟨rfl, rfl⟩
    exact ⟨rfl, τ, ps, ov, H.out, Step.refl _ _ _ _, HB.out, fun g _ => ⟨rfl, rfl⟩, HS.out, by omega⟩

end Go.Proofs.Qxb6601127a
