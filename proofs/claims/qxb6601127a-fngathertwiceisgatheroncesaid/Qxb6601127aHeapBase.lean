import Derived.Test.Qxb6601127aBase
import Derived.Test.Qxb6601127aHeapPlain
namespace Go.Proofs.Qxb6601127a
open Go.RowKit
set_option linter.unusedVariables false
set_option linter.unusedSimpArgs false

/-- the cells of a heap's entries -/
def hv (es : List (Int × Int)) : List Value := es.flatMap fun e => [.int .i64 e.1, .int .i32 e.2]

theorem hv_length (es : List (Int × Int)) : (hv es).length = es.length * 2 := by
  induction es with
  | nil => rfl
  | cons e es ih => simp [hv] at *; omega

theorem hv_key (es : List (Int × Int)) (r : List Value) (i : Nat) (h : i < es.length) : (hv es ++ r)[i * 2]? = some (.int .i64 (kk es i)) := by
  induction es generalizing i with
  | nil => simp at h
  | cons e es ih =>
    cases i with
    | zero => simp [hv, kk]
    | succ i =>
      have := ih i (by simpa using h)
      rw [show (i + 1) * 2 = i * 2 + 1 + 1 by omega]
      simp only [hv, List.flatMap_cons, List.cons_append, List.nil_append, List.getElem?_cons_succ, kk] at *
      exact this

theorem hv_comp (es : List (Int × Int)) (r : List Value) (i : Nat) (h : i < es.length) : (hv es ++ r)[i * 2 + 1]? = some (.int .i32 (cc es i)) := by
  induction es generalizing i with
  | nil => simp at h
  | cons e es ih =>
    cases i with
    | zero => simp [hv, cc]
    | succ i =>
      have := ih i (by simpa using h)
      rw [show (i + 1) * 2 + 1 = i * 2 + 1 + 1 + 1 by omega]
      simp only [hv, List.flatMap_cons, List.cons_append, List.nil_append, List.getElem?_cons_succ, cc] at *
      exact this

theorem hv_set (es : List (Int × Int)) (r : List Value) (i : Nat) (k c : Int) (h : i < es.length) : ((hv es ++ r).set (i * 2) (.int .i64 k)).set (i * 2 + 1) (.int .i32 c) = hv (es.set i (k, c)) ++ r := by
  induction es generalizing i with
  | nil => simp at h
  | cons e es ih =>
    cases i with
    | zero => simp [hv]
    | succ i =>
      have := ih i (by simpa using h)
      rw [show (i + 1) * 2 = i * 2 + 1 + 1 by omega]
      simp only [hv, List.flatMap_cons, List.cons_append, List.nil_append, List.set_cons_succ] at *
      rw [this]

theorem hv_append (es fs : List (Int × Int)) : hv (es ++ fs) = hv es ++ hv fs := by simp [hv]

/-- the entries es lie at the head of block b -/
def Ents (w : World) (b : Nat) (es : List (Int × Int)) : Prop := ∃ r, Blk w b (hv es ++ r) 57

theorem Ents.key {w : World} {b : Nat} {es : List (Int × Int)} (h : Ents w b es) {i : Nat} (hi : i < es.length) : w.cell? ⟨b, i * 2, none⟩ = some (.int .i64 (kk es i)) := by
  obtain ⟨r, h⟩ := h
  rw [h.cell, hv_key _ _ _ hi]
theorem Ents.comp {w : World} {b : Nat} {es : List (Int × Int)} (h : Ents w b es) {i : Nat} (hi : i < es.length) : w.cell? ⟨b, i * 2 + 1, none⟩ = some (.int .i32 (cc es i)) := by
  obtain ⟨r, h⟩ := h
  rw [h.cell, hv_comp _ _ _ hi]
theorem Ents.frozen {w : World} {b : Nat} {es : List (Int × Int)} (h : Ents w b es) (i : Nat) : w.frozen? ⟨b, i, none⟩ = false := by
  obtain ⟨r, h⟩ := h
  exact h.frozen i
theorem Ents.lt {w : World} {b : Nat} {es : List (Int × Int)} (h : Ents w b es) : b < w.heap.size := by
  obtain ⟨r, h⟩ := h
  exact h.lt
theorem Ents.set {w : World} {b : Nat} {es : List (Int × Int)} (h : Ents w b es) {i : Nat} (hi : i < es.length) (k c : Int) :
    Ents ((w.setCell ⟨b, i * 2, none⟩ (.int .i64 k)).setCell ⟨b, i * 2 + 1, none⟩ (.int .i32 c)) b (es.set i (k, c)) := by
  obtain ⟨r, h⟩ := h
  refine ⟨r, ?_⟩
  rw [← hv_set _ _ _ _ _ hi]
  exact (h.set _ _).set _ _
theorem Ents.set_ne {w : World} {b : Nat} {es : List (Int × Int)} (h : Ents w b es) (a : Addr) (v : Value) (hne : b ≠ a.block) : Ents (w.setCell a v) b es := by
  obtain ⟨r, h⟩ := h
  exact ⟨r, h.set_ne a v hne⟩
theorem Ents.alloc {w : World} {b : Nat} {es : List (Int × Int)} (h : Ents w b es) (o : Obj) : Ents (w.alloc o) b es := by
  obtain ⟨r, h⟩ := h
  exact ⟨r, h.alloc o⟩
theorem Ents.take {w : World} {b : Nat} {es : List (Int × Int)} (h : Ents w b es) (n : Nat) : Ents w b (es.take n) := by
  obtain ⟨r, h⟩ := h
  refine ⟨hv (es.drop n) ++ r, ?_⟩
  rw [← List.append_assoc, ← hv_append, List.take_append_drop]
  exact h
theorem Ents.below {B : Nat} {w w' : World} {b : Nat} {es : List (Int × Int)} (h : Ents w b es) (hb : Below B w w') (hB : b < B) : Ents w' b es := by
  obtain ⟨r, h⟩ := h
  exact ⟨r, h.below hb hB⟩

/-- of what was there, only the blocks of S may have turned -/
structure Keeps (S : List Nat) (w w' : World) : Prop where
  os : w'.os = w.os
  tape : w'.tape = w.tape
  output : w'.output = w.output
  size : w.heap.size ≤ w'.heap.size
  block : ∀ k, k < w.heap.size → k ∉ S → w'.heap[k]? = w.heap[k]?

theorem Keeps.refl (S : List Nat) (w : World) : Keeps S w w := ⟨rfl, rfl, rfl, Nat.le_refl _, fun _ _ _ => rfl⟩
theorem Keeps.trans {S : List Nat} {a b c : World} (h : Keeps S a b) (k : Keeps S b c) : Keeps S a c :=
  ⟨k.os.trans h.os, k.tape.trans h.tape, k.output.trans h.output, Nat.le_trans h.size k.size, fun i hi hn => (k.block i (Nat.lt_of_lt_of_le hi h.size) hn).trans (h.block i hi hn)⟩
theorem Keeps.mono {S T : List Nat} {a b : World} (h : Keeps S a b) (hs : ∀ k ∈ S, k ∈ T) : Keeps T a b :=
  ⟨h.os, h.tape, h.output, h.size, fun k hk hn => h.block k hk (fun hS => hn (hs k hS))⟩
theorem Keeps.drewN {S : List Nat} {a w : World} (h : Keeps S a w) (n : Nat) : Keeps S a (w.drewN n) := ⟨h.os, h.tape, h.output, h.size, h.block⟩
theorem Keeps.alloc {S : List Nat} {a w : World} (h : Keeps S a w) (o : Obj) : Keeps S a (w.alloc o) :=
  h.trans ⟨rfl, rfl, rfl, by simp, fun k hk _ => Below.heap_alloc _ _ _ hk⟩
theorem Keeps.setCell {S : List Nat} {a w : World} (h : Keeps S a w) {p : Addr} (hp : p.block ∈ S ∨ a.heap.size ≤ p.block) (u : Value) : Keeps S a (w.setCell p u) := by
  refine ⟨h.os, h.tape, h.output, by simpa [World.setCell] using h.size, fun k hk hn => ?_⟩
  rw [Below.heap_setCell _ _ _ _ ?_]
  · exact h.block k hk hn
  · intro e; subst e
    rcases hp with hp | hp
    · exact hn hp
    · omega
theorem Keeps.below {S : List Nat} {w w' : World} (h : Keeps S w w') {B : Nat} (hB : B ≤ w.heap.size) (hS : ∀ k ∈ S, B ≤ k) : Below B w w' :=
  ⟨h.os, h.tape, h.output, h.size, fun k hk => h.block k (by omega) (fun hm => by have := hS k hm; omega)⟩
theorem Keeps.of_below {w w' : World} (h : Below w.heap.size w w') : Keeps [] w w' := ⟨h.os, h.tape, h.output, h.size, fun k hk _ => h.block k hk⟩
theorem Blk.keeps {S : List Nat} {w w' : World} {b : Nat} {vs : List Value} {e : TypeId} (h : Blk w b vs e) (hk : Keeps S w w') (hb : b ∉ S) : Blk w' b vs e := by
  unfold Blk; rw [hk.block b h.lt hb]; exact h
theorem Ents.keeps {S : List Nat} {w w' : World} {b : Nat} {es : List (Int × Int)} (h : Ents w b es) (hk : Keeps S w w') (hb : b ∉ S) : Ents w' b es := by
  obtain ⟨r, h⟩ := h
  exact ⟨r, h.keeps hk hb⟩

end Go.Proofs.Qxb6601127a
