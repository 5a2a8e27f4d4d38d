import Derived.Test.Qxb6601127aGPass1b
import Derived.Test.Qxb6601127aGChunk
namespace Go.Proofs.Qxb6601127a
open Go.RowKit
set_option linter.unusedVariables false
set_option linter.unusedSimpArgs false

/-- the first n cells of block b are ints, F i at place i -/
def IP (w : World) (b n : Nat) (F : Nat → Int) : Prop := ∃ c : Array Value, w.heap[b]? = some (.cells c 3 (0, 0)) ∧ n ≤ c.size ∧ ∀ i, i < n → c[i]? = some (.int .i64 (F i))

theorem IP.cell {w : World} {b n : Nat} {F : Nat → Int} (h : IP w b n F) {i : Nat} (hi : i < n) : w.cell? ⟨b, i, none⟩ = some (.int .i64 (F i)) := by
  obtain ⟨c, hb, _, hc⟩ := h
  simp [World.cell?, hb, hc i hi]
theorem IP.frozen {w : World} {b n : Nat} {F : Nat → Int} (h : IP w b n F) (i : Nat) : w.frozen? ⟨b, i, none⟩ = false := by
  obtain ⟨c, hb, _, _⟩ := h
  simp [World.frozen?, hb]
theorem IP.lt {w : World} {b n : Nat} {F : Nat → Int} (h : IP w b n F) : b < w.heap.size := by
  obtain ⟨c, hb, _, _⟩ := h
  exact (Array.getElem?_eq_some_iff.1 hb).1
theorem IP.congr {w : World} {b n : Nat} {F G : Nat → Int} (h : IP w b n F) (e : ∀ i, i < n → F i = G i) : IP w b n G := by
  obtain ⟨c, hb, hn, hc⟩ := h
  exact ⟨c, hb, hn, fun i hi => by rw [hc i hi, e i hi]⟩
theorem IP.of_block {w w' : World} {b n : Nat} {F : Nat → Int} (h : IP w b n F) (e : w'.heap[b]? = w.heap[b]?) : IP w' b n F := by
  obtain ⟨c, hb, hn, hc⟩ := h
  exact ⟨c, e.trans hb, hn, hc⟩
theorem IP.set {w : World} {b n : Nat} {F : Nat → Int} (h : IP w b n F) (i : Nat) (v : Int) : IP (w.setCell ⟨b, i, none⟩ (.int .i64 v)) b n (fun j => if j = i then v else F j) := by
  obtain ⟨c, hb, hn, hc⟩ := h
  refine ⟨c.setIfInBounds i (.int .i64 v), ?_, by simpa using hn, fun j hj => ?_⟩
  · simp [World.setCell, Array.getElem?_modify, hb]
  · rw [Array.getElem?_setIfInBounds]
    by_cases e : j = i
    · subst e; simp; omega
    · rw [if_neg (fun h => e h.symm)]; simp [e]; exact hc j hj

/-- the state of the second pass when the edges pr have been laid, those of dl counted -/
structure P2 (w : World) (B : Nat) (τ : Nat → Role) (ps : Nat → List (Option Part)) (ov : Nat → Value) (rb fb spb R N : Nat) (E pr dl : List Edge) (PL : List Part) (M : Nat) : Prop where
  gi : GI w B τ ps ov
  rg : w.rowIs rb 64 R ov
  free : IP w fb N (fun n => (befE E n : Int) + (cntE dl n : Int))
  box : Blk w spb [ov gS] 85
  spare : SpareOK (ps gS)
  slen : (ps gS).length ≤ M
  pl : ps gP = PL.map some
  ch : Chunked E.length PL
  placed : Placed N E pr (flat PL)
  t4 : τ rb = .fix 4
  t6 : τ spb = .fix 6
  t7 : τ fb = .fix 7

theorem P2.step {w w' : World} {B : Nat} {τ : Nat → Role} {ps ps' : Nat → List (Option Part)} {ov : Nat → Value} {rb fb spb R N : Nat} {E pr dl : List Edge} {PL : List Part} {M : Nat} (h : P2 w B τ ps ov rb fb spb R N E pr dl PL M) {τ' : Nat → Role}
    (hg : GI w' B τ' ps' ov) (hs : Step B [] w τ w' τ') (hS : ps' gS = ps gS) (hP : ps' gP = ps gP) : P2 w' B τ' ps' ov rb fb spb R N E pr dl PL M :=
  ⟨hg, h.rg.of_block (hs.same rb 4 h.t4 (by simp)), h.free.of_block (hs.same fb 7 h.t7 (by simp)), h.box.of_block (hs.same spb 6 h.t6 (by simp)), by rw [hS]; exact h.spare, by rw [hS]; exact h.slen, by rw [hP]; exact h.pl, h.ch, h.placed, hs.fix _ _ h.t4, hs.fix _ _ h.t6, hs.fix _ _ h.t7⟩

theorem P2.gave {w w' : World} {B : Nat} {τ τ' : Nat → Role} {ps ps' : Nat → List (Option Part)} {ov ov' : Nat → Value} {rb fb spb R N : Nat} {E pr dl : List Edge} {PL : List Part} {M M' : Nat} (h : P2 w B τ ps ov rb fb spb R N E pr dl PL M) (hR : R ≤ 1024)
    (hG : Gave w B τ ps ov spb w' τ' ps' ov') (hM : M + 1 ≤ M') : P2 w' B τ' ps' ov' rb fb spb R N E pr dl PL M' := by
  refine ⟨hG.gi, ?_, h.free.of_block (hG.step.same fb 7 h.t7 (by simp)), hG.box, hG.spare, Nat.le_trans hG.len (Nat.le_trans (Nat.succ_le_succ h.slen) hM), by rw [(hG.other gP (by unfold gP gS; omega)).1]; exact h.pl, h.ch, h.placed, hG.step.fix _ _ h.t4, hG.step.fix _ _ h.t6, hG.step.fix _ _ h.t7⟩
  exact World.rowIs.congr (World.rowIs.of_block h.rg (hG.step.same rb 4 h.t4 (by simp))) fun r hr => (hG.other r (by unfold gS; omega)).2.symm

/-- the edge e is laid in its place -/
theorem P2.put {w w' : World} {B : Nat} {τ : Nat → Role} {ps : Nat → List (Option Part)} {ov : Nat → Value} {rb fb spb R N : Nat} {E pr : List Edge} {PL : List Part} {M : Nat} (h : P2 w B τ ps ov rb fb spb R N E pr pr PL M) (hR : R ≤ 1024) (hB : B ≤ w.heap.size)
    {e : Edge} {m : Nat} (hm : e.1 = (m : Int)) (hmN : m < N) (hle : ∀ n, n < N → cntE (pr ++ [e]) n ≤ cntE E n) (hfl : befE E m + cntE pr m < (flat PL).length)
    {p : Part} (hp : PL[(befE E m + cntE pr m) / 512]? = some p) (hk : Keeps [p.b] w w') (hP : PartAt w' p.b p.cap (p.es.set ((befE E m + cntE pr m) % 512) e)) :
    ∃ ps' PL', P2 w' B τ ps' ov rb fb spb R N E (pr ++ [e]) pr PL' M ∧ Step B [] w τ w' τ ∧ (∀ g, g ≠ gP → ps' g = ps g) ∧ PL'.length = PL.length := by
  have hpS : gS ≠ gP := by unfold gS gP; omega
  obtain ⟨q, hq⟩ : ∃ q, befE E m + cntE pr m = q := ⟨_, rfl⟩
  rw [hq] at hfl hp hP
  have hi : (ps gP)[q / 512]? = some (some p) := by rw [h.pl, List.getElem?_map, hp]; rfl
  obtain ⟨xs, hx⟩ := h.gi.rowOf gP
  have hxi := hx.2.2 _ p hi
  have hxl : q / 512 < xs.length := by
    rcases Nat.lt_or_ge (q / 512) xs.length with h1 | h1
    · exact h1
    · rw [List.getElem?_eq_none h1] at hxi; cases hxi
  obtain ⟨ob, cp, hv, _, _, _, _, _⟩ := hx.1.len (by omega)
  have hob : (ov gP).ownBlock = some ob := by rw [hv]; rfl
  have tob := h.gi.out gP ob hob
  have tp := (h.gi.part gP _ p hi).2
  have hne : p.b ≠ ob := by intro e; rw [e, tob] at tp; cases tp
  obtain ⟨g1, s1⟩ := h.gi.push (p' := ⟨p.b, p.cap, p.es.set (q % 512) e⟩) hi rfl hx hob hB (hk.mono (by simp)) hP (by
    have hval : Part.val ⟨p.b, p.cap, p.es.set (q % 512) e⟩ = p.val := by unfold Part.val; simp
    have hset : xs.set (q / 512) p.val = xs := by
      apply List.ext_getElem?
      intro j
      by_cases e1 : j = q / 512
      · subst e1; rw [List.getElem?_set_self hxl, hxi]
      · rw [List.getElem?_set_ne (fun e => e1 e.symm)]
    rw [hval, hset]
    exact hx.1.keeps hk (fun b hb hm => by simp at hm; rw [hob] at hb; cases hb; exact hne hm.symm))
  obtain ⟨c1, c2⟩ := h.ch.set hfl hp e
  refine ⟨_, PL.set (q / 512) ⟨p.b, p.cap, p.es.set (q % 512) e⟩, ⟨g1, h.rg.of_block (s1.same _ _ h.t4 (by simp)), h.free.of_block (s1.same _ _ h.t7 (by simp)), h.box.of_block (s1.same _ _ h.t6 (by simp)), ?_, ?_, ?_, c2, ?_, h.t4, h.t6, h.t7⟩, s1, fun g hg => upd_ne _ _ hg, by simp⟩
  · rw [upd_ne _ _ hpS]; exact h.spare
  · rw [upd_ne _ _ hpS]; exact h.slen
  · rw [upd_same, h.pl, List.map_set]
  · rw [c1, ← hq]
    exact h.placed.put hm hmN hle (by rw [hq]; exact hfl)

/-- and its node's free place goes up by one -/
theorem P2.count {w : World} {B : Nat} {τ : Nat → Role} {ps : Nat → List (Option Part)} {ov : Nat → Value} {rb fb spb R N : Nat} {E pr : List Edge} {PL : List Part} {M : Nat} {e : Edge} (h : P2 w B τ ps ov rb fb spb R N E (pr ++ [e]) pr PL M) (hB : B ≤ w.heap.size) {m : Nat} (hm : e.1 = (m : Int))
    {x : Int} (hx : x = (befE E m : Int) + (cntE pr m : Int) + 1) :
    P2 (w.setCell ⟨fb, m, none⟩ (.int .i64 x)) B τ ps ov rb fb spb R N E (pr ++ [e]) (pr ++ [e]) PL M ∧ Step B [7] w τ (w.setCell ⟨fb, m, none⟩ (.int .i64 x)) τ := by
  have hk : Keeps [fb] w (w.setCell ⟨fb, m, none⟩ (.int .i64 x)) := (Keeps.refl _ _).setCell (.inl (by simp)) _
  obtain ⟨g1, s1⟩ := h.gi.step hB hk (K := [7]) (by intro c hc; simp at hc; subst hc; exact ⟨7, by simp, h.t7⟩)
  refine ⟨⟨g1, h.rg.of_block (s1.same _ _ h.t4 (by simp)), ?_, h.box.of_block (s1.same _ _ h.t6 (by simp)), h.spare, h.slen, h.pl, h.ch, h.placed, h.t4, h.t6, h.t7⟩, s1⟩
  refine (h.free.set m x).congr fun j hj => ?_
  rw [cntE_append]
  by_cases e1 : j = m
  · subst e1
    have : cntE [e] j = 1 := by unfold cntE; simp [hm]
    rw [if_pos rfl, this, hx]; omega
  · have : cntE [e] j = 0 := by unfold cntE; simp [hm]; omega
    rw [if_neg e1, this]; simp

end Go.Proofs.Qxb6601127a
