import Derived.Test.Qxb6601127aPop
namespace Go.Proofs.Qxb6601127a
open Go.RowKit
set_option linter.unusedVariables false
set_option linter.unusedSimpArgs false

set_option maxRecDepth 100000 in
set_option maxHeartbeats 1000000 in
theorem pop_one (hb b cap : Nat) (es : List (Int × Int)) (w : World) (HL : Hid (es.length = 1)) (hcap : 1 ≤ cap) (hcap' : cap ≤ 9223372036854775807)
    (HB : Hid (Blk w hb [.slice (some ⟨b, 0, none⟩) 1 cap] 32)) (HE : Hid (Ents w b es)) (hne : hb ≠ b) :
    Calls Try.prog 31 #[.pointer (some ⟨hb, 0, none⟩)] w fun e w' => ∃ es', e = .returned (.int .i32 (cc es 0)) ∧ Popped es es' ∧ Blk w' hb [.slice (some ⟨b, 0, none⟩) 0 cap] 32 ∧ Ents w' b es' ∧ Keeps [hb, b] w w' := by
  have hsl : w.cell? ⟨hb, 0, none⟩ = some (.slice (some ⟨b, 0, none⟩) 1 cap) := by rw [HB.out.cell]; rfl
  have hsf := HB.out.frozen 0
  have c1 : w.cell? ⟨b, 1, none⟩ = some (.int .i32 (cc es 0)) := by have := HE.out.comp (i := 0) (by rw [HL.out]; omega); simpa using this
  have c2 : w.cell? ⟨b, 0, none⟩ = some (.int .i64 (kk es 0)) := by have := HE.out.key (i := 0) (by rw [HL.out]; omega); simpa using this
  have hbb := HB.out.lt
  have hbb' := HE.out.lt
  have HQ : Hid (Popped es []) := popped_one es HL.out
  generalize cc es 0 = c0 at *
  generalize kk es 0 = k0 at *
  go_enter Try.func31, Try.ntmps31
  go_wp2
  go_region
  go_wp2
  go_region
  go_wp2
  go_ret
  refine ⟨[], rfl, HQ, (HB.out.set 0 _).alloc _, ?_, (((Keeps.refl _ _).setCell (.inl (by simp)) _).alloc _).drewN 2⟩
  have := ((HE.out.take 0).set_ne ⟨hb, 0, none⟩ (.slice (some ⟨b, 0, none⟩) 0 cap) hne.symm).alloc (.cells #[.int .i64 k0, .int .i32 c0] 57)
  rw [List.take_zero] at this
  exact this

/-- POP, whatever the heap that is not empty. -/
theorem pop_any (hb b n cap : Nat) (es : List (Int × Int)) (w : World) (HL : Hid (es.length = n + 1)) (hn : n + 1 ≤ 1048576) (hcap : n + 1 ≤ cap) (hcap' : cap ≤ 9223372036854775807)
    (HB : Hid (Blk w hb [.slice (some ⟨b, 0, none⟩) (n + 1) cap] 32)) (HE : Hid (Ents w b es)) (hne : hb ≠ b) :
    Calls Try.prog 31 #[.pointer (some ⟨hb, 0, none⟩)] w fun e w' => ∃ es', e = .returned (.int .i32 (cc es 0)) ∧ Popped es es' ∧ Blk w' hb [.slice (some ⟨b, 0, none⟩) n cap] 32 ∧ Ents w' b es' ∧ Keeps [hb, b] w w' := by
  cases n with
  | zero => exact pop_one hb b cap es w HL hcap hcap' HB HE hne
  | succ n => exact pop_many hb b (n + 1) cap es w HL (by omega) hn hcap hcap' HB HE hne

theorem Popped.length {es es' : List (Int × Int)} (h : Popped es es') : es'.length = es.length - 1 := by
  rw [h.perm.length_eq]; simp

end Go.Proofs.Qxb6601127a
