import Derived.Test.Qxb6601127aGL8
import Derived.Test.Qxb6601127aGL6
import Derived.Test.Qxb6601127aGL3
import Derived.Test.Qxb6601127aGR20
import Derived.Test.Qxb6601127aGR68
namespace Go.Proofs.Qxb6601127a
open Go.RowKit
set_option linter.unusedVariables false
set_option linter.unusedSimpArgs false

/-- what stands throughout gather -/
structure GB (w0 : World) (B g gb N : Nat) (v0 : Value) (w : World) (τ : Nat → Role) (ps : Nat → List (Option Part)) (ov : Nat → Value) : Prop where
  gi : GI w B τ ps ov
  below : Below B w0 w
  hB : B ≤ w.heap.size
  t0 : τ g = .fix 0
  t1 : τ gb = .fix 1
  cgb : w.cell? ⟨gb, 0, none⟩ = some (.pointer (some ⟨g, 0, none⟩))
  cg1 : w.cell? ⟨g, 1, none⟩ = some (.int .i64 (N : Int))
  cg3 : w.cell? ⟨g, 3, none⟩ = some v0
  cg4 : w.cell? ⟨g, 4, none⟩ = some (.slice none 0 0)
  fg : ∀ i, w.frozen? ⟨g, i, none⟩ = false

theorem frozen_of_block {w w' : World} {a : Addr} (h : w'.heap[a.block]? = w.heap[a.block]?) : w'.frozen? a = w.frozen? a := by
  simp [World.frozen?, h]

theorem GB.step {w0 w w' : World} {B g gb N : Nat} {v0 : Value} {τ τ' : Nat → Role} {ps ps' : Nat → List (Option Part)} {ov ov' : Nat → Value} (h : GB w0 B g gb N v0 w τ ps ov) {S : List Nat}
    (hg : GI w' B τ' ps' ov') (hs : Step B S w τ w' τ') (n0 : 0 ∉ S) (n1 : 1 ∉ S) : GB w0 B g gb N v0 w' τ' ps' ov' := by
  have b0 := hs.same g 0 h.t0 n0
  have b1 := hs.same gb 1 h.t1 n1
  exact ⟨hg, h.below.trans hs.below, Nat.le_trans h.hB hs.below.size, hs.fix _ _ h.t0, hs.fix _ _ h.t1, (World.cell?_of_block (w := w) b1).trans h.cgb, (World.cell?_of_block (w := w) b0).trans h.cg1, (World.cell?_of_block (w := w) b0).trans h.cg3, (World.cell?_of_block (w := w) b0).trans h.cg4,
    fun i => (frozen_of_block (w := w) (a := ⟨g, i, none⟩) b0).trans (h.fg i)⟩

theorem GB.keeps {w0 w w' : World} {B g gb N : Nat} {v0 : Value} {τ : Nat → Role} {ps : Nat → List (Option Part)} {ov : Nat → Value} (h : GB w0 B g gb N v0 w τ ps ov) {b k : Nat}
    (hk : Keeps [b] w w') (hb : τ b = .fix k) (hk2 : 2 ≤ k) : GB w0 B g gb N v0 w' τ ps ov ∧ Step B [k] w τ w' τ := by
  obtain ⟨g1, s1⟩ := h.gi.step h.hB hk (K := [k]) (by intro c hc; simp at hc; subst hc; exact ⟨k, by simp, hb⟩)
  exact ⟨h.step g1 s1 (by simp; omega) (by simp; omega), s1⟩

theorem GB.fresh {w0 w w' : World} {B g gb N : Nat} {v0 : Value} {τ : Nat → Role} {ps : Nat → List (Option Part)} {ov : Nat → Value} (h : GB w0 B g gb N v0 w τ ps ov) {b : Nat} (k : Nat)
    (hk : Keeps [] w w') (hb : b = w.heap.size) (hb' : w.heap.size < w'.heap.size) : GB w0 B g gb N v0 w' (upd τ b (.fix k)) ps ov ∧ Step B [] w τ w' (upd τ b (.fix k)) := by
  subst hb
  obtain ⟨g1, s1⟩ := h.gi.fresh h.hB hk (Nat.le_refl _) hb' (.fix k) (.inr ⟨k, rfl⟩)
  exact ⟨h.step g1 s1 (by simp) (by simp), s1⟩

/-- the graph as gather meets it -/
structure GStart (w : World) (B g N : Nat) (P : List Part) (τ : Nat → Role) (ps : Nat → List (Option Part)) (ov : Nat → Value) : Prop where
  gi : GI w B τ ps ov
  hB : B ≤ w.heap.size
  hG : ps gG = P.map some
  oth : ∀ r, r ≠ gG → ps r = [] ∧ ov r = .slice none 0 0
  t0 : τ g = .fix 0
  cg1 : w.cell? ⟨g, 1, none⟩ = some (.int .i64 (N : Int))
  cg3 : w.cell? ⟨g, 3, none⟩ = some (ov gG)
  cg4 : w.cell? ⟨g, 4, none⟩ = some (.slice none 0 0)
  fg : ∀ i, w.frozen? ⟨g, i, none⟩ = false
  tl : Tails N (flat P)

theorem alloc_frozen {w : World} {a : Addr} {x : Value} (h : w.cell? a = some x) (o : Obj) : (w.alloc o).frozen? a = w.frozen? a :=
  frozen_of_block (Below.heap_alloc _ _ _ (World.block_lt_of_cell? w a h))

/-- the box of the receiver -/
theorem GStart.boxed {w : World} {B g N : Nat} {P : List Part} {τ : Nat → Role} {ps : Nat → List (Option Part)} {ov : Nat → Value} (h : GStart w B g N P τ ps ov) :
    GB w B g w.heap.size N (ov gG) (w.alloc (.cells #[.pointer (some ⟨g, 0, none⟩)] 61)) (upd τ w.heap.size (.fix 1)) ps ov := by
  have hk : Keeps [] w (w.alloc (.cells #[.pointer (some ⟨g, 0, none⟩)] 61)) := (Keeps.refl [] w).alloc _
  obtain ⟨g1, s1⟩ := h.gi.fresh h.hB hk (Nat.le_refl _) (by simp) (.fix 1) (.inr ⟨1, rfl⟩)
  have b0 := s1.same g 0 h.t0 (by simp)
  exact ⟨g1, s1.below, by simp; have := h.hB; omega, s1.fix _ _ h.t0, upd_same _ _ _, by rw [(Blk.new w _ 61).cell]; rfl, (World.cell?_of_block (w := w) b0).trans h.cg1, (World.cell?_of_block (w := w) b0).trans h.cg3, (World.cell?_of_block (w := w) b0).trans h.cg4,
    fun i => (frozen_of_block (w := w) (a := ⟨g, i, none⟩) b0).trans (h.fg i)⟩

theorem IB.made (w : World) (n : Nat) : IB (w.alloc (.cells (madeCells #[.int .i64 0] n) 3)) w.heap.size n (fun _ => 0) := World.rowIs_made w _ n 3

/-- the state ahead of the first pass -/
theorem P1.init {w : World} {B : Nat} {τ : Nat → Role} {ps : Nat → List (Option Part)} {ov : Nat → Value} {rb lf spb R sh N : Nat} {E : List Edge} (hg : GI w B τ ps ov) (hoth : ∀ r, r ≠ gG → ps r = [] ∧ ov r = .slice none 0 0) (hR : R ≤ 1024) (hT : Tails N E)
    (hrg : w.rowIs rb 64 R (fun _ => .slice none 0 0)) (hlf : IB w lf R (leftF E sh N R)) (hbox : Blk w spb [.slice none 0 0] 85) (t4 : τ rb = .fix 4) (t5 : τ lf = .fix 5) (t6 : τ spb = .fix 6) : P1 w B τ ps ov rb lf spb R sh E [] [] 0 := by
  have hSG : gS ≠ gG := by unfold gS gG; omega
  refine ⟨hg, hrg.congr fun i hi => ((hoth i (by unfold gG; omega)).2).symm, hlf.congr fun i hi => ?_, by rw [(hoth gS hSG).2]; exact hbox, ?_, by rw [(hoth gS hSG).1]; simp, fun r hr => ⟨[], ?_, rfl, by simp⟩, t4, t5, t6⟩
  · unfold leftF
    rw [if_pos hi]
    have := rgE_count hT sh i
    have e : (rgE sh i []).length = 0 := rfl
    rw [e]; omega
  · rw [(hoth gS hSG).1]; intro x hx; cases hx
  · rw [(hoth r (by unfold gG; omega)).1]; rfl

/-- free := append([]int(nil), start[:N]...) -/
theorem IP.of_owns {w : World} {v : Value} {N : Nat} {F : Nat → Int} (hN : 0 < N) (h : w.ownsRow 0 3 1 v N ((List.range N).map fun n => .int .i64 (F n))) : ∃ fb fc, v = .slice (some ⟨fb, 0, none⟩) N fc ∧ N ≤ fc ∧ fc ≤ maxLen ∧ IP w fb N F := by
  rcases h.2 with ⟨_, h0⟩ | ⟨b, cap, cur, hv, _, hb, hc, hm, hs, ht⟩
  · omega
  · refine ⟨b, cap, hv, hc, hm, cur, hb, by omega, fun i hi => ?_⟩
    have h1 : (cur.toList.take (N * 1))[i]? = some (.int .i64 (F i)) := by rw [ht]; simp [hi]
    rw [List.getElem?_take, if_pos (by omega)] at h1
    simpa using h1

/-- the state ahead of the second pass -/
theorem P2.init {w w' : World} {B : Nat} {τ : Nat → Role} {ps : Nat → List (Option Part)} {ov : Nat → Value} {rb lf spb R sh N K fb : Nat} {E : List Edge} (h : P1 w B τ ps ov rb lf spb R sh E E E K) (hB : B ≤ w.heap.size) (hR : R ≤ 1024) (hk : Keeps [] w w') (hb : w.heap.size ≤ fb) (hb' : fb < w'.heap.size)
    (hf : IP w' fb N (fun n => (befE E n : Int))) :
    P2 w' B (upd τ fb (.fix 7)) (upd ps gP []) (upd ov gP (.slice none 0 0)) rb fb spb R N E [] [] [] K ∧ Step B [] w τ w' (upd τ fb (.fix 7)) ∧ (∀ r, r < R → Cont (upd ps gP []) sh r E) := by
  have hSP : gS ≠ gP := by unfold gS gP; omega
  obtain ⟨g1, s1⟩ := (h.gi.clear gP).fresh hB hk hb hb' (.fix 7) (.inr ⟨7, rfl⟩)
  refine ⟨⟨g1, ?_, ?_, ?_, ?_, ?_, ?_, ?_, ?_, s1.fix _ _ h.t4, s1.fix _ _ h.t6, upd_same _ _ _⟩, s1, fun r hr => ?_⟩
  · exact World.rowIs.congr (World.rowIs.of_block h.rg (s1.same _ _ h.t4 (by simp))) fun j hj => (upd_ne _ _ (by unfold gP; omega)).symm
  · exact hf.congr fun i _ => by simp [cntE]
  · rw [upd_ne _ _ hSP]; exact h.box.of_block (s1.same _ _ h.t6 (by simp))
  · rw [upd_ne _ _ hSP]; exact h.spare
  · rw [upd_ne _ _ hSP]; exact h.slen
  · rw [upd_same]; rfl
  · intro i p hp; simp at hp
  · intro n j e hn he; simp [nodeE] at he
  · obtain ⟨P, a1, a2⟩ := h.cont r hr
    exact ⟨P, by rw [upd_ne _ _ (by unfold gP; omega)]; exact a1, a2⟩

/-- what gather leaves -/
structure GEnd (w0 : World) (B g N : Nat) (E : List Edge) (w : World) (st : Nat) (PL : List Part) (v : Value) (τ : Nat → Role) (ps : Nat → List (Option Part)) (ov : Nat → Value) : Prop where
  gi : GI w B τ ps ov
  below : Below B w0 w
  hB : B ≤ w.heap.size
  pl : ps gP = PL.map some
  ov : ov gP = v
  ch : Chunked E.length PL
  fl : flat PL = grouped N E
  len : PL.length = (E.length + 511) / 512
  start : IB w st (N + 1) (fun n => (befE E n : Int))
  ts : τ st = .fix 2
  tg : τ g = .fix 0
  cg3 : w.cell? ⟨g, 3, none⟩ = some v
  cg4 : w.cell? ⟨g, 4, none⟩ = some (.slice (some ⟨st, 0, none⟩) (N + 1) (N + 1))

theorem GEnd.made {w0 w w' : World} {B g gb N st : Nat} {v0 x : Value} {τ : Nat → Role} {ps : Nat → List (Option Part)} {ov : Nat → Value} {E : List Edge} {PL : List Part} {v : Value} (h : GB w0 B g gb N v0 w τ ps ov) (hpl : ps gP = PL.map some) (hov : ov gP = v) (hch : Chunked E.length PL) (hfl : flat PL = grouped N E) (hlen : PL.length = (E.length + 511) / 512)
    (hst : IB w st (N + 1) (fun n => (befE E n : Int))) (ts : τ st = .fix 2)
    (hw : w' = ((w.setCell ⟨g, 3, none⟩ v).setCell ⟨g, 4, none⟩ (.slice (some ⟨st, 0, none⟩) (N + 1) (N + 1))).drew ∨ w' = ((w.setCell ⟨g, 4, none⟩ (.slice (some ⟨st, 0, none⟩) (N + 1) (N + 1))).setCell ⟨g, 3, none⟩ v).drew) : GEnd w0 B g N E w' st PL v τ ps ov := by
  have hk : Keeps [g] w w' := by
    rcases hw with rfl | rfl
    · exact (((Keeps.refl _ _).setCell (.inl (by simp)) _).setCell (.inl (by simp)) _).drew
    · exact (((Keeps.refl _ _).setCell (.inl (by simp)) _).setCell (.inl (by simp)) _).drew
  obtain ⟨g1, s1⟩ := h.gi.step h.hB hk (K := [0]) (by intro c hc; simp at hc; subst hc; exact ⟨0, by simp, h.t0⟩)
  refine ⟨g1, h.below.trans s1.below, Nat.le_trans h.hB s1.below.size, hpl, hov, hch, hfl, hlen, hst.of_block (s1.same _ _ ts (by simp)), ts, h.t0, ?_, ?_⟩
  · rcases hw with rfl | rfl
    · show (World.setCell _ _ _).cell? _ = _
      rw [World.cell?_setCell_other _ _ _ _ (by simp)]
      exact World.cell?_setCell_same _ _ _ h.cg3
    · exact World.cell?_setCell_same _ _ _ (by rw [World.cell?_setCell_other _ _ _ _ (by simp)]; exact h.cg3)
  · rcases hw with rfl | rfl
    · exact World.cell?_setCell_same _ _ _ (by rw [World.cell?_setCell_other _ _ _ _ (by simp)]; exact h.cg4)
    · show (World.setCell _ _ _).cell? _ = _
      rw [World.cell?_setCell_other _ _ _ _ (by simp)]
      exact World.cell?_setCell_same _ _ _ h.cg4

theorem GStart.begin {w : World} {B g N : Nat} {P : List Part} {τ : Nat → Role} {ps : Nat → List (Option Part)} {ov : Nat → Value} (h : GStart w B g N P τ ps ov) {w1 : World} (hw : w1 = (w.alloc (.cells #[.pointer (some ⟨g, 0, none⟩)] 61)).alloc (.cells (madeCells #[.int .i64 0] (N + 1)) 3)) :
    ∃ τ', GB w B g w.heap.size N (ov gG) w1 τ' ps ov ∧ τ' (w.heap.size + 1) = .fix 2 ∧ IB w1 (w.heap.size + 1) (N + 1) (cntF []) := by
  subst hw
  have hb := h.boxed
  obtain ⟨g1, s1⟩ := hb.fresh (b := (w.alloc (.cells #[.pointer (some ⟨g, 0, none⟩)] 61)).heap.size) 2 ((Keeps.refl [] _).alloc (.cells (madeCells #[.int .i64 0] (N + 1)) 3)) rfl (by simp)
  have hsz : (w.alloc (.cells #[.pointer (some ⟨g, 0, none⟩)] 61)).heap.size = w.heap.size + 1 := by simp
  have hI := IB.made (w.alloc (.cells #[.pointer (some ⟨g, 0, none⟩)] 61)) (N + 1)
  rw [hsz] at g1 hI
  exact ⟨_, g1, upd_same _ _ _, hI.congr fun i _ => by unfold cntF; simp [cntE]⟩

end Go.Proofs.Qxb6601127a
