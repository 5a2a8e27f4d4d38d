import Derived.Test.Qxb6601127aProg
import Derived.WalkKit
import Derived.WalkSpells
import Derived.Deep.QuietTactic
import Derived.BigQuiet
import Derived.Deep.OwnRows
import Derived.Deep.LoopGhost
namespace Go.Proofs.Qxb6601127a
open Go.RowKit

theorem Try.info3 : (Try.prog.info? 3).map (fun i => (i.zero, i.size, i.bytes)) = some (some (.int .i64 0), 1, 8) := by kernel_rfl
theorem Try.info21 : (Try.prog.info? 21).map (fun i => (i.zero, i.size, i.bytes)) = some (some (.int .i32 0), 1, 4) := by kernel_rfl

theorem ret_bool {a b : Bool} (h : a = b) : Ending.returned (.bool a) = .returned (.bool b) := by rw [h]

theorem drew_more (w : World) (m k : Nat) : ∃ x, (w.drewN m).drewN k = w.drewN x := ⟨_, World.drewN_drewN _ _ _⟩

/-- Block number b of the world holds exactly the values vs, none of them frozen. -/
def Blk (w : World) (b : Nat) (vs : List Value) (e : TypeId) : Prop := w.heap[b]? = some (.cells vs.toArray e (0, 0))

theorem Blk.lt {w : World} {b : Nat} {vs : List Value} {e : TypeId} (h : Blk w b vs e) : b < w.heap.size := by
  unfold Blk at h
  rcases Nat.lt_or_ge b w.heap.size with h' | h'
  · exact h'
  · simp [Array.getElem?_eq_none h'] at h

theorem Blk.cell {w : World} {b : Nat} {vs : List Value} {e : TypeId} (h : Blk w b vs e) (i : Nat) : w.cell? ⟨b, i, none⟩ = vs[i]? := by
  unfold Blk at h
  simp [World.cell?, h]

theorem Blk.frozen {w : World} {b : Nat} {vs : List Value} {e : TypeId} (h : Blk w b vs e) (i : Nat) : w.frozen? ⟨b, i, none⟩ = false := by
  unfold Blk at h
  simp [World.frozen?, h]

theorem Blk.below {B : Nat} {w w' : World} {b : Nat} {vs : List Value} {e : TypeId} (h : Blk w b vs e) (hb : Below B w w') (hB : b < B) : Blk w' b vs e := by
  unfold Blk; rw [hb.block b hB]; exact h

theorem Blk.drewN {w : World} {b : Nat} {vs : List Value} {e : TypeId} (h : Blk w b vs e) (n : Nat) : Blk (w.drewN n) b vs e := h
theorem Blk.drew {w : World} {b : Nat} {vs : List Value} {e : TypeId} (h : Blk w b vs e) : Blk w.drew b vs e := h

theorem Blk.alloc {w : World} {b : Nat} {vs : List Value} {e : TypeId} (h : Blk w b vs e) (o : Obj) : Blk (w.alloc o) b vs e := by
  have := h.lt
  unfold Blk; rw [Below.heap_alloc _ _ _ this]; exact h

theorem Blk.new (w : World) (c : Array Value) (e : TypeId) : Blk (w.alloc (.cells c e)) w.heap.size c.toList e := by
  unfold Blk World.alloc
  simp

theorem Blk.set {w : World} {b : Nat} {vs : List Value} {e : TypeId} (h : Blk w b vs e) (i : Nat) (v : Value) : Blk (w.setCell ⟨b, i, none⟩ v) b (vs.set i v) e := by
  unfold Blk at *
  simp [World.setCell, Array.getElem?_modify, h]

theorem Blk.set_ne {w : World} {b : Nat} {vs : List Value} {e : TypeId} (h : Blk w b vs e) (a : Addr) (v : Value) (hne : b ≠ a.block) : Blk (w.setCell a v) b vs e := by
  unfold Blk; rw [Below.heap_setCell _ _ _ _ hne]; exact h

theorem Blk.icell {k : IntKind} {w : World} {b : Nat} {zs : List Int} {e : TypeId} (h : Blk w b (zs.map (.int k)) e) {i : Nat} (hi : i < zs.length) : w.cell? ⟨b, i, none⟩ = some (.int k (zs[i]?.getD 0)) := by
  rw [h.cell]; simp [hi]

theorem Blk.iset {k : IntKind} {w : World} {b : Nat} {zs : List Int} {e : TypeId} (h : Blk w b (zs.map (.int k)) e) (i : Nat) (v : Int) : Blk (w.setCell ⟨b, i, none⟩ (.int k v)) b ((zs.set i v).map (.int k)) e := by
  rw [List.map_set]; exact h.set i _

theorem Blk.made (w : World) (z : Value) (n : Nat) (e : TypeId) : Blk (w.alloc (.cells (madeCells #[z] n) e)) w.heap.size (List.replicate n z) e := by
  have h := Blk.new w (madeCells #[z] n) e
  have e1 : (madeCells #[z] n).toList = List.replicate n z := by
    apply List.ext_getElem
    · simp [size_madeCells]
    · intro i h1 h2
      simp [madeCells, Nat.mod_one]
  rwa [e1] at h

theorem Below.drewN' {B : Nat} {a w : World} (h : Below B a w) (n : Nat) : Below B a (w.drewN n) := ⟨h.os, h.tape, h.output, h.size, h.block⟩

/-- The integers zs lie at the cells from (b, off) on. -/
def Ints (k : IntKind) (w : World) (b off : Nat) (zs : List Int) : Prop := ∀ i, i < zs.length → w.cell? ⟨b, off + i, none⟩ = some (.int k (zs[i]?.getD 0))

theorem Ints.of_blk {k : IntKind} {w : World} {b : Nat} {zs : List Int} {e : TypeId} (h : Blk w b (zs.map (.int k)) e) : Ints k w b 0 zs := by
  intro i hi
  rw [Nat.zero_add, h.cell]
  simp [hi]

theorem Ints.drop {k : IntKind} {w : World} {b off : Nat} {zs : List Int} (h : Ints k w b off zs) (n : Nat) : Ints k w b (off + n) (zs.drop n) := by
  intro i hi
  simp at hi
  have := h (n + i) (by omega)
  rw [Nat.add_assoc, this]
  simp

theorem Ints.drewN {k : IntKind} {w : World} {b off : Nat} {zs : List Int} (h : Ints k w b off zs) (n : Nat) : Ints k (w.drewN n) b off zs := h

theorem Ints.below {k : IntKind} {B : Nat} {w w' : World} {b off : Nat} {zs : List Int} (h : Ints k w b off zs) (hb : Below B w w') (hB : b < B) : Ints k w' b off zs := by
  intro i hi
  rw [hb.cell (p := ⟨b, off + i, none⟩) hB]; exact h i hi

end Go.Proofs.Qxb6601127a
