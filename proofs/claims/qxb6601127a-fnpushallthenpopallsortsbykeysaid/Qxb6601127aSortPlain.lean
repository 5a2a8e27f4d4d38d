/-
  THE PLAIN LAW OF FnPushAllThenPopAllSortsByKey: no Go in sight.
-/
import Derived.Test.Qxb6601127aPopPlain
import Derived.Test.Qxb6601127aPushPlain
namespace Go.Proofs.Qxb6601127a
set_option linter.unusedSimpArgs false
set_option linter.unusedVariables false

/-- the components in the order of byComp -/
def co (comps : List Int) (xs : List Nat) (i : Nat) : Int := comps[xs[i]?.getD 0]?.getD 0

theorem co_le {comps : List Int} {n : Nat} {xs : List Nat} (h : Sorted comps none n xs) (i j : Nat) (hij : i < j) (hj : j < n) : co comps xs i ≤ co comps xs j := by
  have := h.inOrder i j hij hj
  rw [leq_iff] at this
  unfold co
  unfold key2 at this
  omega

/-- distinct neighbours: the order is strict -/
theorem co_lt {comps : List Int} {n : Nat} {xs : List Nat} (h : Sorted comps none n xs) (hd : ∀ i, 1 ≤ i → i < n → co comps xs (i - 1) ≠ co comps xs i) (i j : Nat) (hij : i < j) (hj : j < n) : co comps xs i < co comps xs j := by
  have h1 := hd (i + 1) (by omega) (by omega)
  rw [Nat.add_sub_cancel] at h1
  have h2 := co_le h i (i + 1) (by omega) (by omega)
  by_cases e : i + 1 = j
  · subst e; omega
  · have h3 := co_le h (i + 1) j (by omega) hj
    omega

theorem range_get (comps : List Int) : (List.range comps.length).map (fun i => comps[i]?.getD 0) = comps := by
  apply List.ext_getElem
  · simp
  · intro i h1 h2; simp [h2]

theorem comps_nodup {comps : List Int} {n : Nat} {xs : List Nat} (hc : comps.length = n) (h : Sorted comps none n xs) (hd : ∀ i, 1 ≤ i → i < n → co comps xs (i - 1) ≠ co comps xs i) : comps.Nodup := by
  have hp := h.perm.map (fun i => comps[i]?.getD 0)
  rw [← hc, range_get] at hp
  refine hp.nodup_iff.1 ?_
  unfold List.Nodup
  rw [List.pairwise_iff_getElem]
  intro i j hi hj hij
  simp at hi hj
  have hl := h.length
  have := co_lt h hd i j hij (by omega)
  unfold co at this
  simp only [List.getElem_map]
  rw [List.getElem?_eq_getElem hi, List.getElem?_eq_getElem hj] at this
  simp only [Option.getD_some] at this
  omega

/-- the state of the law's last loop -/
structure PopSt (keys comps : List Int) (n s : Nat) (es done : List (Int × Int)) (seen : List Bool) (prev : Int) : Prop where
  heap : HeapE es
  len : es.length + s = n
  perm : (done ++ es).Perm (keys.zip comps)
  slen : seen.length = n
  marked : ∀ i, i < n → seen[i]?.getD false = true → at2 (keys.zip comps) i ∈ done
  least : 0 < s → ∀ e ∈ es, prev ≤ e.1

theorem popst_start {keys comps : List Int} {n : Nat} {es : List (Int × Int)} (hk : keys.length = n) (hc : comps.length = n) (hp : es.Perm (keys.zip comps)) (hh : HeapE es) (prev : Int) : PopSt keys comps n 0 es [] (List.replicate n false) prev := by
  refine ⟨hh, ?_, by simpa using hp, by simp, fun i h1 h2 => ?_, fun h => by omega⟩
  · rw [hp.length_eq, List.length_zip]; omega
  · exfalso
    simp [List.getElem?_replicate, h1] at h2

theorem at2_zip (keys comps : List Int) (n p : Nat) (hk : keys.length = n) (hc : comps.length = n) (hp : p < n) : at2 (keys.zip comps) p = (keys[p]?.getD 0, comps[p]?.getD 0) := by
  unfold at2
  rw [List.getElem?_eq_getElem (by rw [List.length_zip]; omega), List.getElem_zip]
  simp [show p < keys.length by omega, show p < comps.length by omega]

theorem es_cons {es : List (Int × Int)} (h : 0 < es.length) : es = (kk es 0, cc es 0) :: es.tail := by
  match es, h with
  | e :: es, _ => simp [kk, cc]

theorem popst_step {keys comps : List Int} {n s : Nat} {es es' done : List (Int × Int)} {seen : List Bool} {prev : Int} {xs : List Nat} (hk : keys.length = n) (hc : comps.length = n)
    (hS : Sorted comps none n xs) (hd : ∀ i, 1 ≤ i → i < n → co comps xs (i - 1) ≠ co comps xs i) (h : PopSt keys comps n s es done seen prev) (hs : s < n) (hp : Popped es es') :
    ∃ p q : Nat, p < n ∧ q < n ∧ xs[q]?.getD 0 = p ∧ (∀ k, k < q → co comps xs k < cc es 0) ∧ comps[p]?.getD 0 = cc es 0 ∧ (∀ k, q ≤ k → k < n → cc es 0 ≤ co comps xs k) ∧
      seen[p]?.getD false = false ∧ keys[p]?.getD 0 = kk es 0 ∧ (0 < s → prev ≤ kk es 0) ∧ PopSt keys comps n (s + 1) es' (done ++ [(kk es 0, cc es 0)]) (seen.set p true) (kk es 0) := by
  have hl := h.len
  have he := es_cons (es := es) (by omega)
  have hmem : (kk es 0, cc es 0) ∈ keys.zip comps := by
    refine h.perm.mem_iff.1 ?_
    rw [he]; simp [kk, cc]
  obtain ⟨p, hp1, hp2⟩ := List.getElem_of_mem hmem
  rw [List.length_zip] at hp1
  have hpn : p < n := by omega
  have hz := at2_zip keys comps n p hk hc hpn
  have hz2 : at2 (keys.zip comps) p = (kk es 0, cc es 0) := by
    unfold at2; rw [List.getElem?_eq_getElem (by rw [List.length_zip]; exact hp1), hp2]; rfl
  have hpk : keys[p]?.getD 0 = kk es 0 := by rw [hz2] at hz; exact (Prod.mk.inj hz).1.symm
  have hpc : comps[p]?.getD 0 = cc es 0 := by rw [hz2] at hz; exact (Prod.mk.inj hz).2.symm
  have hpx : p ∈ xs := hS.perm.mem_iff.2 (by simpa using hpn)
  obtain ⟨q, hq1, hq2⟩ := List.getElem_of_mem hpx
  have hqn : q < n := by have := hS.length; omega
  have hxq : xs[q]?.getD 0 = p := by rw [List.getElem?_eq_getElem hq1, hq2]; rfl
  have hcq : co comps xs q = cc es 0 := by unfold co; rw [hxq, hpc]
  have hnd := comps_nodup hc hS hd
  have hsnd : ((done ++ es).map Prod.snd).Nodup := by
    refine ((h.perm.map Prod.snd).nodup_iff).2 ?_
    rw [List.map_snd_zip (by omega)]
    exact hnd
  have hnot : (kk es 0, cc es 0) ∉ done := by
    intro hin
    rw [List.map_append] at hsnd
    have h1 : cc es 0 ∈ done.map Prod.snd := List.mem_map.2 ⟨_, hin, rfl⟩
    have h2 : cc es 0 ∈ es.map Prod.snd := by rw [he]; simp [kk, cc]
    exact (List.nodup_append.1 hsnd).2.2 _ h1 _ h2 rfl
  have hseen : seen[p]?.getD false = false := by
    cases hb : seen[p]?.getD false with
    | false => rfl
    | true => have := h.marked p hpn hb; rw [hz2] at this; exact absurd this hnot
  have hslen := h.slen
  refine ⟨p, q, hpn, hqn, hxq, fun k hkq => ?_, hpc, fun k h1 h2 => ?_, hseen, hpk, fun h0 => ?_, hp.heap h.heap, ?_, ?_, by simpa using hslen, fun i h1 h2 => ?_, fun _ e hee => ?_⟩
  · rw [← hcq]; exact co_lt hS hd k q hkq hqn
  · rw [← hcq]
    by_cases e : q = k
    · subst e; exact Int.le_refl _
    · exact co_le hS q k (by omega) h2
  · have := h.least h0 (kk es 0, cc es 0) (by rw [he]; simp [kk, cc])
    exact this
  · have := hp.perm.length_eq
    rw [List.length_tail] at this
    omega
  · rw [List.append_assoc]
    refine List.Perm.trans ?_ h.perm
    refine List.Perm.append_left _ ?_
    conv => rhs; rw [he]
    exact List.Perm.cons _ hp.perm
  · by_cases e : p = i
    · subst e; rw [hz2]; simp
    · rw [List.getElem?_set_ne e] at h2
      exact List.mem_append_left _ (h.marked i h1 h2)
  · have hm : e ∈ es := by
      have := hp.perm.mem_iff.1 hee
      exact List.mem_of_mem_tail this
    obtain ⟨j, hj1, hj2⟩ := List.getElem_of_mem hm
    have := heap_top h.heap j hj1
    have e2 : kk es j = e.1 := by unfold kk; rw [List.getElem?_eq_getElem hj1, hj2]; rfl
    omega

end Go.Proofs.Qxb6601127a
