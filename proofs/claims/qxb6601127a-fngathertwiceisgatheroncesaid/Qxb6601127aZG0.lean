import Derived.Test.Qxb6601127aGG1
namespace Go.Proofs.Qxb6601127a
open Go.RowKit
set_option linter.unusedVariables false
set_option linter.unusedSimpArgs false

/-- v reads as the numbers zs, in a block before D -/
def RD (k : IntKind) (D : Nat) (w : World) (v : Value) (zs : List Int) : Prop :=
  ∃ oa c, v = .slice oa zs.length c ∧ (0 < zs.length → ∃ b, b < D ∧ oa = some ⟨b, 0, none⟩ ∧ ∀ i, i < zs.length → w.cell? ⟨b, i, none⟩ = some (.int k (zs[i]?.getD 0)))

theorem RD.get {k : IntKind} {D : Nat} {w : World} {v : Value} {zs : List Int} (h : RD k D w v zs) {i : Nat} (hi : i < zs.length) :
    ∃ b c, v = .slice (some ⟨b, 0, none⟩) zs.length c ∧ b < D ∧ w.cell? ⟨b, i, none⟩ = some (.int k (zs[i]?.getD 0)) := by
  obtain ⟨oa, c, hv, hh⟩ := h
  obtain ⟨b, hb, rfl, hc⟩ := hh (by omega)
  exact ⟨b, c, hv, hb, hc i hi⟩

theorem RD.len {k : IntKind} {D : Nat} {w : World} {v : Value} {zs : List Int} (h : RD k D w v zs) : ∃ oa c, v = .slice oa zs.length c := by
  obtain ⟨oa, c, hv, _⟩ := h
  exact ⟨oa, c, hv⟩

theorem RD.keeps {S : List Nat} {k : IntKind} {D : Nat} {w w' : World} {v : Value} {zs : List Int} (h : RD k D w v zs) (hk : Keeps S w w') (hS : ∀ b ∈ S, D ≤ b) : RD k D w' v zs := by
  obtain ⟨oa, c, hv, hh⟩ := h
  refine ⟨oa, c, hv, fun hp => ?_⟩
  obtain ⟨b, hb, ho, hc⟩ := hh hp
  refine ⟨b, hb, ho, fun i hi => hk.cell (hc i hi) (fun hm => ?_)⟩
  have := hS _ hm
  simp at this; omega

theorem RD.below {k : IntKind} {D : Nat} {w w' : World} {v : Value} {zs : List Int} (h : RD k D w v zs) (hb : Below D w w') : RD k D w' v zs := by
  obtain ⟨oa, c, hv, hh⟩ := h
  refine ⟨oa, c, hv, fun hp => ?_⟩
  obtain ⟨b, hb', ho, hc⟩ := hh hp
  refine ⟨b, hb', ho, fun i hi => ?_⟩
  rw [World.cell?_of_block (w := w) (a := ⟨b, i, none⟩) (hb.block b hb')]; exact hc i hi

theorem RD.mono {k : IntKind} {D D' : Nat} {w : World} {v : Value} {zs : List Int} (h : RD k D w v zs) (hd : D ≤ D') : RD k D' w v zs := by
  obtain ⟨oa, c, hv, hh⟩ := h
  refine ⟨oa, c, hv, fun hp => ?_⟩
  obtain ⟨b, hb', ho, hc⟩ := hh hp
  exact ⟨b, by omega, ho, hc⟩

theorem RD.of_owns {k : IntKind} {D Bs : Nat} {w : World} {v : Value} {zs : List Int} {e : TypeId} {n : Nat} (h : w.ownsRow Bs e 1 v n (zs.map (.int k))) (hD : w.heap.size ≤ D) : RD k D w v zs := by
  have hl := h.1
  simp at hl
  rcases h.2 with ⟨h1, h2⟩ | ⟨g, cap, cur, hv, _, hg, hn, hm, hs, ht⟩
  · exact ⟨none, 0, by rw [h1, hl, h2], fun hp => by omega⟩
  · subst hl
    refine ⟨_, _, hv, fun hp => ⟨g, by have := (Array.getElem?_eq_some_iff.1 hg).1; omega, rfl, fun i hi => ?_⟩⟩
    have h1 : (cur.toList.take (zs.length * 1))[i]? = some (.int k (zs[i]?.getD 0)) := by
      rw [ht, List.getElem?_map, List.getElem?_eq_getElem hi]; simp
    rw [List.getElem?_take, if_pos (by omega)] at h1
    simp [World.cell?, hg]
    simpa using h1

theorem RD.of_blk {k : IntKind} {D b c : Nat} {w : World} {zs : List Int} {e : TypeId} (h : Blk w b (zs.map (.int k)) e) (hD : b < D) : RD k D w (.slice (some ⟨b, 0, none⟩) zs.length c) zs :=
  ⟨_, _, rfl, fun _ => ⟨b, hD, rfl, fun i hi => h.icell hi⟩⟩

theorem RD.nil {k : IntKind} {D : Nat} {w : World} : RD k D w (.slice none 0 0) [] := ⟨none, 0, rfl, fun h => by simp at h⟩

/-- the three rows of numbers of the edges -/
def fsE (E : List Edge) : List Int := E.map fun e => e.1
def tsE (E : List Edge) : List Int := E.map fun e => e.2.1
def ksE (E : List Edge) : List Int := E.map fun e => e.2.2

theorem PartAt.full {w : World} {b n : Nat} : PartAt (w.alloc (.cells (zs3 n).toArray 70)) w.heap.size n (List.replicate n (0, 0, 0)) := by
  refine ⟨[], ?_, by simp⟩
  have := Blk.new w (zs3 n).toArray 70
  rw [List.append_nil]
  exact this

end Go.Proofs.Qxb6601127a
