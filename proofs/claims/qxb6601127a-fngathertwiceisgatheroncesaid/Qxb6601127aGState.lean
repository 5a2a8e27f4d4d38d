import Derived.Test.Qxb6601127aGCount
namespace Go.Proofs.Qxb6601127a
open Go.RowKit
set_option linter.unusedVariables false
set_option linter.unusedSimpArgs false

/-- whose a block is -/
structure Role where
  tag : Nat
  grp : Nat
  idx : Nat

abbrev Role.no : Role := ⟨0, 0, 0⟩
abbrev Role.fix (k : Nat) : Role := ⟨1, k, 0⟩
abbrev Role.out (g : Nat) : Role := ⟨2, g, 0⟩
abbrev Role.pt (g i : Nat) : Role := ⟨3, g, i⟩
abbrev Role.loose : Role := ⟨4, 0, 0⟩

def upd {α : Type} (f : Nat → α) (k : Nat) (v : α) : Nat → α := fun j => if j = k then v else f j
theorem upd_same {α : Type} (f : Nat → α) (k : Nat) (v : α) : upd f k v k = v := by simp [upd]
theorem upd_ne {α : Type} (f : Nat → α) {k j : Nat} (v : α) (h : j ≠ k) : upd f k v j = f j := by simp [upd, h]

structure Part where
  b : Nat
  cap : Nat
  es : List Edge

def Part.val (p : Part) : Value := .slice (some ⟨p.b, 0, none⟩) p.es.length p.cap

def gS : Nat := 100000
def gG : Nat := 100001
def gP : Nat := 100002

/-- the groups' outer rows and parts as they lie in the world -/
structure GI (w : World) (B : Nat) (τ : Nat → Role) (ps : Nat → List (Option Part)) (ov : Nat → Value) : Prop where
  row : ∀ g, ∃ xs, Row w (ov g) xs ∧ xs.length = (ps g).length ∧ ∀ (i : Nat) (p : Part), (ps g)[i]? = some (some p) → xs[i]? = some p.val
  part : ∀ (g i : Nat) (p : Part), (ps g)[i]? = some (some p) → PartAt w p.b p.cap p.es ∧ τ p.b = .pt g i
  out : ∀ g b, (ov g).ownBlock = some b → τ b = .out g
  live : ∀ b, τ b ≠ .no → B ≤ b ∧ b < w.heap.size

/-- of the fixed blocks those of S alone may turn; what lies before B is as it was -/
structure Step (B : Nat) (S : List Nat) (w : World) (τ : Nat → Role) (w' : World) (τ' : Nat → Role) : Prop where
  below : Below B w w'
  fix : ∀ b k, τ b = .fix k → τ' b = .fix k
  same : ∀ b k, τ b = .fix k → k ∉ S → w'.heap[b]? = w.heap[b]?

theorem Step.refl (B : Nat) (S : List Nat) (w : World) (τ : Nat → Role) : Step B S w τ w τ := ⟨Below.refl _ _, fun _ _ h => h, fun _ _ _ _ => rfl⟩
theorem Step.trans {B : Nat} {S : List Nat} {w w1 w2 : World} {τ τ1 τ2 : Nat → Role} (h : Step B S w τ w1 τ1) (k : Step B S w1 τ1 w2 τ2) : Step B S w τ w2 τ2 :=
  ⟨h.below.trans k.below, fun b i hb => k.fix b i (h.fix b i hb), fun b i hb hn => (k.same b i (h.fix b i hb) hn).trans (h.same b i hb hn)⟩
theorem Step.mono {B : Nat} {S T : List Nat} {w w1 : World} {τ τ1 : Nat → Role} (h : Step B S w τ w1 τ1) (hs : ∀ k ∈ S, k ∈ T) : Step B T w τ w1 τ1 :=
  ⟨h.below, h.fix, fun b k hb hn => h.same b k hb (fun hk => hn (hs k hk))⟩

theorem Keeps.to_below {S : List Nat} {w w' : World} (h : Keeps S w w') {B : Nat} (hB : B ≤ w.heap.size) (hS : ∀ b ∈ S, B ≤ b) : Below B w w' := h.below hB hS

/-- a stretch that writes fixed blocks alone -/
theorem GI.step {w w' : World} {B : Nat} {τ : Nat → Role} {ps : Nat → List (Option Part)} {ov : Nat → Value} (h : GI w B τ ps ov) {S K : List Nat} (hB : B ≤ w.heap.size)
    (hk : Keeps S w w') (hS : ∀ b ∈ S, ∃ k ∈ K, τ b = .fix k) : GI w' B τ ps ov ∧ Step B K w τ w' τ := by
  refine ⟨⟨fun g => ?_, fun g i p hp => ?_, h.out, fun b hb => ?_⟩, ?_, fun _ _ h => h, fun b k hb hn => ?_⟩
  · obtain ⟨xs, h1, h2, h3⟩ := h.row g
    refine ⟨xs, h1.keeps hk (fun b hb hm => ?_), h2, h3⟩
    obtain ⟨k, _, hk⟩ := hS b hm
    rw [h.out g b hb] at hk; cases hk
  · obtain ⟨h1, h2⟩ := h.part g i p hp
    refine ⟨h1.keeps hk (fun hm => ?_), h2⟩
    obtain ⟨k, _, hk⟩ := hS _ hm
    rw [h2] at hk; cases hk
  · have := h.live b hb
    have := hk.size
    omega
  · refine hk.below hB (fun b hb => ?_)
    obtain ⟨k, _, e⟩ := hS b hb
    exact (h.live b (by rw [e]; intro h; cases h)).1
  · refine hk.block b (h.live b (by rw [hb]; intro h; cases h)).2 (fun hm => hn ?_)
    obtain ⟨k', hk', e⟩ := hS b hm
    rw [hb] at e; cases e; exact hk'

theorem Row.len {w : World} {v : Value} {xs : List Value} (h : Row w v xs) (hx : 0 < xs.length) : ∃ g cap, v = .slice (some ⟨g, 0, none⟩) xs.length cap ∧ xs.length ≤ cap ∧ cap ≤ 9223372036854775807 ∧
    (∀ i x, xs[i]? = some x → w.cell? ⟨g, i, none⟩ = some x) ∧ (∀ i, w.frozen? ⟨g, i, none⟩ = false) ∧ g < w.heap.size := by
  have hl := h.1
  rcases h.2 with ⟨_, h0⟩ | ⟨g, cap, cur, rfl, _, hg, hn, hc, hs, ht⟩
  · omega
  · refine ⟨g, cap, rfl, hn, by unfold maxLen at hc; omega, fun i x hx => ?_, fun i => ?_, (Array.getElem?_eq_some_iff.1 hg).1⟩
    · rw [← ht, List.getElem?_take] at hx
      split at hx
      · simp [World.cell?, hg]; simpa using hx
      · cases hx
    · simp [World.frozen?, hg]

/-- a store into an outer row -/
theorem Row.set {w : World} {g n cap : Nat} {xs : List Value} (h : Row w (.slice (some ⟨g, 0, none⟩) n cap) xs) {i : Nat} (hi : i < xs.length) (v : Value) :
    Row (w.setCell ⟨g, i, none⟩ v) (.slice (some ⟨g, 0, none⟩) n cap) (xs.set i v) := by
  rcases h.2 with ⟨h0, _⟩ | ⟨g', cap', cur, he, hb, hg, hn, hc, hs, ht⟩
  · cases h0
  · cases he
    refine ⟨by simp, .inr ⟨g, cap, cur.setIfInBounds i v, by simp, hb, ?_, by simpa using hn, hc, by simpa using hs, ?_⟩⟩
    · simp [World.setCell, Array.getElem?_modify, hg]
    · rw [Array.toList_setIfInBounds, List.length_set, List.take_set, ht]

/-- an outer row cut by one -/
theorem Row.pop {w : World} {g n cap : Nat} {xs : List Value} {x : Value} (h : Row w (.slice (some ⟨g, 0, none⟩) (n + 1) cap) (xs ++ [x])) :
    Row w (.slice (some ⟨g, 0, none⟩) n cap) xs := by
  rcases h.2 with ⟨h0, _⟩ | ⟨g', cap', cur, he, hb, hg, hn, hc, hs, ht⟩
  · cases h0
  · injection he with h1 h2 h3
    injection h1 with h1
    injection h1 with h1
    subst h1 h3
    have hl : n = xs.length := by simpa using h2
    subst hl
    refine ⟨by simp, .inr ⟨g, cap, cur, rfl, hb, hg, by simp at hn; omega, hc, hs, ?_⟩⟩
    have := congrArg (List.take xs.length) ht
    rw [List.take_take] at this
    simp at this ⊢
    exact this

/-- what a group's outer row holds -/
def RowOf (w : World) (l : List (Option Part)) (v : Value) (xs : List Value) : Prop :=
  Row w v xs ∧ xs.length = l.length ∧ ∀ (i : Nat) (p : Part), l[i]? = some (some p) → xs[i]? = some p.val

theorem GI.rowOf {w : World} {B : Nat} {τ : Nat → Role} {ps : Nat → List (Option Part)} {ov : Nat → Value} (h : GI w B τ ps ov) (g : Nat) : ∃ xs, RowOf w (ps g) (ov g) xs := h.row g

theorem live_lt {w : World} {B : Nat} {τ : Nat → Role} {ps : Nat → List (Option Part)} {ov : Nat → Value} (h : GI w B τ ps ov) {b : Nat} {r : Role} (hb : τ b = r) (hr : r ≠ .no) : B ≤ b ∧ b < w.heap.size :=
  h.live b (by rw [hb]; exact hr)

/-- part i of group g takes another content, in its own block and in its cell of the outer row -/
theorem GI.push {w w' : World} {B : Nat} {τ : Nat → Role} {ps : Nat → List (Option Part)} {ov : Nat → Value} (h : GI w B τ ps ov) {g i : Nat} {p p' : Part} {xs : List Value} {ob : Nat}
    (hp : (ps g)[i]? = some (some p)) (hb : p'.b = p.b) (hx : RowOf w (ps g) (ov g) xs) (hob : (ov g).ownBlock = some ob)
    (hB : B ≤ w.heap.size) (hk : Keeps [p.b, ob] w w') (hP : PartAt w' p'.b p'.cap p'.es) (hR : Row w' (ov g) (xs.set i p'.val)) :
    GI w' B τ (upd ps g ((ps g).set i (some p'))) ov ∧ Step B [] w τ w' τ := by
  have t1 := (h.part g i p hp).2
  have t2 := h.out g ob hob
  have hil : i < (ps g).length := by
    rcases Nat.lt_or_ge i (ps g).length with h1 | h1
    · exact h1
    · rw [List.getElem?_eq_none h1] at hp; cases hp
  refine ⟨⟨fun g' => ?_, fun g' i' q hq => ?_, h.out, fun b hb' => ?_⟩, ?_, fun _ _ h => h, fun b k hb' hn => ?_⟩
  · by_cases hg : g' = g
    · subst hg
      rw [upd_same]
      refine ⟨_, hR, by rw [List.length_set, List.length_set]; exact hx.2.1, fun j q hq => ?_⟩
      by_cases hj : j = i
      · subst hj
        rw [List.getElem?_set_self hil] at hq
        rw [List.getElem?_set_self (by rw [hx.2.1]; exact hil)]
        cases hq; rfl
      · rw [List.getElem?_set_ne (fun e => hj e.symm)] at hq ⊢
        exact hx.2.2 j q hq
    · rw [upd_ne _ _ hg]
      obtain ⟨ys, h1, h2, h3⟩ := h.row g'
      refine ⟨ys, h1.keeps hk (fun b hb' hm => ?_), h2, h3⟩
      have t3 := h.out g' b hb'
      simp at hm
      rcases hm with rfl | rfl
      · rw [t1] at t3; cases t3
      · rw [t2] at t3; cases t3; exact hg rfl
  · by_cases hg : g' = g
    · subst hg
      rw [upd_same] at hq
      by_cases hj : i' = i
      · subst hj
        rw [List.getElem?_set_self hil] at hq
        cases hq
        exact ⟨hP, by rw [hb]; exact t1⟩
      · rw [List.getElem?_set_ne (fun e => hj e.symm)] at hq
        obtain ⟨h1, h2⟩ := h.part _ _ _ hq
        refine ⟨h1.keeps hk (fun hm => ?_), h2⟩
        simp at hm
        rcases hm with hm | hm
        · rw [hm, t1] at h2; cases h2; exact hj rfl
        · rw [hm, t2] at h2; cases h2
    · rw [upd_ne _ _ hg] at hq
      obtain ⟨h1, h2⟩ := h.part _ _ _ hq
      refine ⟨h1.keeps hk (fun hm => ?_), h2⟩
      simp at hm
      rcases hm with hm | hm
      · rw [hm, t1] at h2; cases h2; exact hg rfl
      · rw [hm, t2] at h2; cases h2
  · have := h.live b hb'
    have := hk.size
    omega
  · refine hk.below hB (fun b hb' => ?_)
    simp at hb'
    rcases hb' with rfl | rfl
    · exact (live_lt h t1 (by simp)).1
    · exact (live_lt h t2 (by simp)).1
  · refine hk.block b (live_lt h hb' (by simp)).2 (fun hm => ?_)
    simp at hm
    rcases hm with rfl | rfl
    · rw [t1] at hb'; cases hb'
    · rw [t2] at hb'; cases hb'

/-- a loose part goes behind group g's last -/
theorem GI.append {w w' : World} {B : Nat} {τ : Nat → Role} {ps : Nat → List (Option Part)} {ov : Nat → Value} (h : GI w B τ ps ov) {g : Nat} {p : Part} {xs : List Value} {v' : Value} {F : List Nat}
    (hx : RowOf w (ps g) (ov g) xs) (hl : τ p.b = .loose) (hP : PartAt w p.b p.cap p.es)
    (hB : B ≤ w.heap.size) (hk : Keeps (F ++ (ov g).ownBlock.toList) w w') (hF : ∀ b ∈ F, ∃ k, τ b = .fix k) (hR : Row w' v' (xs ++ [p.val])) (hv : v'.ownBlock = (ov g).ownBlock ∨ ∃ n, v'.ownBlock = some n ∧ w.heap.size ≤ n) :
    ∃ τ', GI w' B τ' (upd ps g (ps g ++ [some p])) (upd ov g v') ∧ (∀ K : List Nat, (∀ b ∈ F, ∃ k ∈ K, τ b = .fix k) → Step B K w τ w' τ') := by
  let τ' : Nat → Role := fun b => if b = p.b then .pt g (ps g).length else if v'.ownBlock = some b then .out g else τ b
  have hlp := live_lt h hl (by simp)
  have hout : ∀ b, v'.ownBlock = some b → b ≠ p.b := by
    rintro b hb rfl
    rcases hv with e | ⟨n, e, hn⟩
    · rw [e] at hb; have := h.out g _ hb; rw [hl] at this; cases this
    · rw [e] at hb; cases hb; omega
  have hkeep : ∀ b, b < w.heap.size → b ≠ p.b → τ' b = τ b := by
    intro b hb hne
    show (if b = p.b then _ else if v'.ownBlock = some b then _ else τ b) = τ b
    rw [if_neg hne]
    split
    next e =>
      rcases hv with e' | ⟨n, e', hn⟩
      · rw [e'] at e; exact (h.out g b e).symm
      · rw [e'] at e; cases e; omega
    · rfl
  have hns : ∀ b r, τ b = r → b ∈ F ++ (ov g).ownBlock.toList → (∃ k, r = .fix k) ∨ r = .out g := by
    intro b r hb hm
    rw [List.mem_append] at hm
    rcases hm with hm | hm
    · obtain ⟨k, e⟩ := hF b hm
      exact .inl ⟨k, by rw [← hb, e]⟩
    · simp at hm
      exact .inr (by rw [← hb]; exact h.out g b hm)
  have hfix : ∀ b k, τ b = .fix k → τ' b = .fix k := by
    intro b k hb
    rw [hkeep b (live_lt h hb (by simp)).2 (by rintro rfl; rw [hl] at hb; cases hb)]; exact hb
  refine ⟨τ', ⟨fun g' => ?_, fun g' i q hq => ?_, fun g' b hb => ?_, fun b hb => ?_⟩, fun K hK => ⟨?_, hfix, fun b k hb hn => ?_⟩⟩
  · by_cases hg : g' = g
    · subst hg
      rw [upd_same, upd_same]
      refine ⟨_, hR, by rw [List.length_append, List.length_append, hx.2.1]; rfl, fun j q hq => ?_⟩
      rw [List.getElem?_append] at hq ⊢
      rw [hx.2.1]
      split
      next hj => rw [if_pos hj] at hq; exact hx.2.2 j q hq
      next hj =>
        rw [if_neg hj] at hq
        rcases hd : j - (ps g').length with _ | m
        · rw [hd] at hq; simp at hq; subst hq; simp
        · rw [hd] at hq; simp at hq
    · rw [upd_ne _ _ hg, upd_ne _ _ hg]
      obtain ⟨ys, h1, h2, h3⟩ := h.row g'
      refine ⟨ys, h1.keeps hk (fun b hb hm => ?_), h2, h3⟩
      rcases hns b _ (h.out g' b hb) hm with ⟨k, e⟩ | e
      · cases e
      · cases e; exact hg rfl
  · have hold : ∀ i, (ps g')[i]? = some (some q) → PartAt w' q.b q.cap q.es ∧ τ' q.b = .pt g' i := by
      intro i hq
      obtain ⟨h1, h2⟩ := h.part _ _ _ hq
      refine ⟨h1.keeps hk (fun hm => ?_), ?_⟩
      · rcases hns _ _ h2 hm with ⟨k, e⟩ | e <;> cases e
      · rw [hkeep _ h1.lt (by intro e; rw [e, hl] at h2; cases h2)]; exact h2
    by_cases hg : g' = g
    · subst hg
      rw [upd_same, List.getElem?_append] at hq
      split at hq
      · exact hold i hq
      next hj =>
        rcases hd : i - (ps g').length with _ | m
        · rw [hd] at hq; simp at hq; subst hq
          have hi : i = (ps g').length := by omega
          refine ⟨hP.keeps hk (fun hm => ?_), by subst hi; simp [τ']⟩
          rcases hns _ _ hl hm with ⟨k, e⟩ | e <;> cases e
        · rw [hd] at hq; simp at hq
    · rw [upd_ne _ _ hg] at hq
      exact hold i hq
  · by_cases hg : g' = g
    · subst hg
      rw [upd_same] at hb
      show (if b = p.b then _ else if v'.ownBlock = some b then _ else τ b) = _
      rw [if_neg (hout b hb), if_pos hb]
    · rw [upd_ne _ _ hg] at hb
      have t := h.out g' b hb
      rw [hkeep b (live_lt h t (by simp)).2 (by rintro rfl; rw [hl] at t; cases t)]; exact t
  · have hs := hk.size
    by_cases h1 : b = p.b
    · subst h1; omega
    · by_cases h2 : v'.ownBlock = some b
      · have hlt := hR.lt h2
        rcases hv with e | ⟨n, e, hn⟩
        · rw [e] at h2; have := live_lt h (h.out g b h2) (by simp); omega
        · rw [e] at h2; cases h2; omega
      · have : τ' b = τ b := by
          show (if b = p.b then _ else if v'.ownBlock = some b then _ else τ b) = _
          rw [if_neg h1, if_neg h2]
        rw [this] at hb
        have := h.live b hb
        omega
  · refine hk.below hB (fun b hb => ?_)
    rw [List.mem_append] at hb
    rcases hb with hb | hb
    · obtain ⟨k, e⟩ := hF b hb
      exact (live_lt h e (by simp)).1
    · simp at hb
      exact (live_lt h (h.out g b hb) (by simp)).1
  · refine hk.block b (live_lt h hb (by simp)).2 (fun hm => ?_)
    rw [List.mem_append] at hm
    rcases hm with hm | hm
    · obtain ⟨k', hk', e⟩ := hK b hm
      rw [hb] at e; cases e; exact hn hk'
    · simp at hm
      rw [h.out g b hm] at hb; cases hb

end Go.Proofs.Qxb6601127a
