import Derived.Test.Qxb6601127aLW0
namespace Go.Proofs.Qxb6601127a
open Go.RowKit
set_option linter.unusedVariables false
set_option linter.unusedSimpArgs false

/-- the edges that three rows of numbers give -/
def zipE (n : Nat) (fs ts ks : List Int) : List Edge := (List.range n).map fun i => (fs[i]?.getD 0, ts[i]?.getD 0, ks[i]?.getD 0)

theorem zipE_length (n : Nat) (fs ts ks : List Int) : (zipE n fs ts ks).length = n := by simp [zipE]

theorem map_getD (n : Nat) (fs : List Int) (h : fs.length = n) : (List.range n).map (fun i => fs[i]?.getD 0) = fs := by
  apply List.ext_getElem?
  intro i
  rw [List.getElem?_map]
  by_cases hi : i < n
  · have hf : fs[i]? = some fs[i] := List.getElem?_eq_getElem (by omega)
    rw [List.getElem?_range hi, hf, Option.map_some, hf]; rfl
  · rw [List.getElem?_eq_none (by simp; omega), List.getElem?_eq_none (by omega)]; rfl

theorem fsE_zip {n : Nat} {fs ts ks : List Int} (h : fs.length = n) : fsE (zipE n fs ts ks) = fs := by
  unfold fsE zipE; rw [List.map_map]; exact map_getD n fs h
theorem tsE_zip {n : Nat} {fs ts ks : List Int} (h : ts.length = n) : tsE (zipE n fs ts ks) = ts := by
  unfold tsE zipE; rw [List.map_map]; exact map_getD n ts h
theorem ksE_zip {n : Nat} {fs ts ks : List Int} (h : ks.length = n) : ksE (zipE n fs ts ks) = ks := by
  unfold ksE zipE; rw [List.map_map]; exact map_getD n ks h

theorem tails_of {N : Nat} {E : List Edge} : Tails N E ↔ ∀ z ∈ fsE E, 0 ≤ z ∧ z < (N : Int) := by
  unfold Tails fsE
  constructor
  · intro h z hz
    obtain ⟨e, he, rfl⟩ := List.mem_map.1 hz
    exact h e he
  · intro h e he
    exact h e.1 (List.mem_map.2 ⟨e, he, rfl⟩)

theorem toNat_back {zs : List Int} (h : ∀ z ∈ zs, 0 ≤ z) : (zs.map Int.toNat).map (fun n : Nat => (n : Int)) = zs := by
  rw [List.map_map]
  conv => rhs; rw [← List.map_id zs]
  refine List.map_congr_left fun z hz => ?_
  have := h z hz
  simp; omega

theorem sum_cast (ls : List Nat) : (ls.map fun n : Nat => (n : Int)).sum = (ls.sum : Int) := by
  induction ls with
  | nil => rfl
  | cons a ls ih => simp only [List.map_cons, List.sum_cons]; rw [ih]; omega

theorem Layout.nats {zs : List Int} {e : Nat} (h : Layout zs e) : (zs.map Int.toNat).map (fun n : Nat => (n : Int)) = zs ∧ (zs.map Int.toNat).sum = e := by
  have h1 := toNat_back h.1
  refine ⟨h1, ?_⟩
  have h2 := sum_cast (zs.map Int.toNat)
  rw [h1, h.2] at h2
  omega

theorem chunk_sum (T m : Nat) : ((List.range m).map fun i => min 512 (T - 512 * i)).sum = min (512 * m) T := by
  induction m with
  | zero => simp
  | succ m ih => rw [List.range_succ, List.map_append, List.sum_append, ih]; simp; omega

theorem chunkL_sum (T : Nat) : (chunkL T).sum = T := by unfold chunkL; rw [chunk_sum]; omega
theorem chunkL_length (T : Nat) : (chunkL T).length = (T + 511) / 512 := by unfold chunkL; simp

theorem chunkL_layout (T : Nat) : Layout ((chunkL T).map fun n : Nat => (n : Int)) T := by
  refine ⟨fun z hz => ?_, by rw [sum_cast, chunkL_sum]⟩
  obtain ⟨n, _, rfl⟩ := List.mem_map.1 hz
  omega

theorem grouped_len {N : Nat} {E : List Edge} (h : Tails N E) : (grouped N E).length = E.length := by rw [grouped_length h, befE_all h]

theorem IB.rx {w : World} {b n : Nat} {F : Nat → Int} (h : IB w b n F) : RX .i64 w (some ⟨b, 0, none⟩) n ((List.range n).map F) := by
  refine ⟨by simp, fun i hi => ⟨_, rfl, ?_⟩⟩
  rw [addr_at, h.cell hi, List.getElem?_map, List.getElem?_range hi]; rfl

theorem wf_i64 {z : Int} (h : (Lit.int .i64 z).wf = true) : -9223372036854775808 ≤ z ∧ z ≤ 9223372036854775807 := by
  have e1 : IntKind.i64.min = -9223372036854775808 := by decide
  have e2 : IntKind.i64.max = 9223372036854775807 := by decide
  simp [Lit.wf] at h; omega
theorem wf_i32 {z : Int} (h : (Lit.int .i32 z).wf = true) : -2147483648 ≤ z ∧ z ≤ 2147483647 := by
  have e1 : IntKind.i32.min = -2147483648 := by decide
  have e2 : IntKind.i32.max = 2147483647 := by decide
  simp [Lit.wf] at h; omega

end Go.Proofs.Qxb6601127a
