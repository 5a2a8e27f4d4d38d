import Derived.Test.Qxb6601127aPopWalk
import Derived.Test.Qxb6601127aPush
import Derived.Test.Qxb6601127aFind
import Derived.Test.Qxb6601127aSortPlain
import Derived.Deep.CutRange
namespace Go.Proofs.Qxb6601127a
open Go.RowKit
set_option linter.unusedVariables false
set_option linter.unusedSimpArgs false

theorem Try.info4 : (Try.prog.info? 4).map (fun i => (i.zero, i.size, i.bytes)) = some (some (.bool false), 1, 1) := by kernel_rfl

theorem hpop_any (hb b n cap : Nat) (es : List (Int × Int)) (w : World) (HL : Hid (es.length = n + 1)) (hn : n + 1 ≤ 1048576) (hcap : n + 1 ≤ cap) (hcap' : cap ≤ 9223372036854775807)
    (HB : Hid (Blk w hb [.slice (some ⟨b, 0, none⟩) (n + 1) cap] 32)) (HE : Hid (Ents w b es)) (hne : hb ≠ b) :
    Calls Try.prog 16 #[.pointer (some ⟨hb, 0, none⟩)] w fun e w' => ∃ es', e = .returned (.int .i32 (cc es 0)) ∧ Popped es es' ∧ Blk w' hb [.slice (some ⟨b, 0, none⟩) n cap] 32 ∧ Ents w' b es' ∧ Keeps [hb, b] w w' := by
  have HP := hid (pop_any hb b n cap es w HL hn hcap hcap' HB HE hne)
  generalize cc es 0 = c0 at *
  go_enter Try.func16, Try.ntmps16
  go_wp2_with fail
  refine HP.out.mono ?_
  rintro e w' ⟨es', rfl, h1, h2, h3, h4⟩
  have H1 := hid h1
  have H2 := hid h2
  have H3 := hid h3
  have H4 := hid h4
  clear h1 h2 h3 h4
  go_wp2_with fail
  go_ret
  exact ⟨es', rfl, H1, H2, H3, H4⟩

set_option maxHeartbeats 400000 in
theorem bytes14 (a0 a1 : Option Addr) (n0 c0 n1 c1 : Nat) (w : World) (h0 : n0 ≤ 9223372036854775807) (h1 : n1 ≤ 9223372036854775807) :
    Calls Try.prog 14 #[.slice a0 n0 c0, .slice a1 n1 c1] w fun e w' => (∃ b, e = .returned (.bool b)) ∧ w = w' := by
  go_enter Try.func14, Try.ntmps14
  go_wp2
  all_goals (go_ret; exact ⟨⟨_, rfl⟩, rfl⟩)

theorem cloneInts_zero (a : Option Addr) (c : Nat) (hc : a = none → c = 0) (w : World) :
    Calls Try.prog 9 #[.slice a 0 c] w fun e w' => ∃ a' c', e = .returned (.slice a' 0 c') ∧ Below w.heap.size w w' := by
  cases a with
  | none => obtain rfl := hc rfl; exact (cloneInts_nil w).mono (by rintro e w' ⟨rfl, rfl⟩; exact ⟨_, _, rfl, Below.refl _ _⟩)
  | some x => exact (cloneInts_some x c [] 0 rfl w (by omega) (fun i hi => by omega)).mono (by rintro e w' ⟨rfl, _, h, _⟩; exact ⟨_, _, rfl, h⟩)

theorem cloneInt32s_zero (a : Option Addr) (c : Nat) (hc : a = none → c = 0) (w : World) :
    Calls Try.prog 10 #[.slice a 0 c] w fun e w' => ∃ a' c', e = .returned (.slice a' 0 c') ∧ Below w.heap.size w w' := by
  cases a with
  | none => obtain rfl := hc rfl; exact (cloneInt32s_nil w).mono (by rintro e w' ⟨rfl, rfl⟩; exact ⟨_, _, rfl, Below.refl _ _⟩)
  | some x => exact (cloneInt32s_some x c [] 0 rfl w (by omega) (fun i hi => by omega)).mono (by rintro e w' ⟨rfl, _, h, _⟩; exact ⟨_, _, rfl, h⟩)

set_option maxRecDepth 100000 in
set_option maxHeartbeats 1000000 in
theorem sortLaw_out (a0 : Option Addr) (len0 cap0 : Nat) (a1 : Option Addr) (len1 cap1 : Nat) (w : World) (b0 : len0 ≤ 9223372036854775807) (b1 : len1 ≤ 9223372036854775807)
    (hno : ¬ (len0 ≤ 65536 ∧ len1 ≤ 65536 ∧ 8 * len0 + 4 * len1 ≤ 1048576 ∧ len1 = len0)) :
    Calls Try.prog 4 #[.slice a0 len0 cap0, .slice a1 len1 cap1] w fun e w' => e = .returned (.bool true) ∧ Below w.heap.size w w' := by
  go_enter Try.func4, Try.ntmps4
  go_wp2_with (go_at_call 14; refine (bytes14 _ _ _ _ _ _ _ b0 b1).mono ?_; rintro e w' ⟨⟨b, rfl⟩, rfl⟩)
  all_goals first
    | (exfalso; simp at *; omega)
    | (go_ret; exact ⟨rfl, Below.refl _ _⟩)

set_option maxRecDepth 100000 in
set_option maxHeartbeats 1000000 in
theorem sortLaw_zero (a0 : Option Addr) (cap0 : Nat) (a1 : Option Addr) (cap1 : Nat) (w : World) (h0 : a0 = none → cap0 = 0) (h1 : a1 = none → cap1 = 0) :
    Calls Try.prog 4 #[.slice a0 0 cap0, .slice a1 0 cap1] w fun e w' => e = .returned (.bool true) ∧ Below w.heap.size w w' := by
  have hmk : ∀ w, (Instr.makeSlice 35 (.int .i64 0) (.int .i64 0)).run Try.prog w = .ok (.slice (some ⟨w.heap.size, 0, none⟩) 0 0) (w.alloc (.cells (madeCells #[.bool false] 0) 4)) :=
    fun w => run_make_row' (P := Try.prog) 35 4 (.bool false) 1 Try.underlying35 Try.info4 rfl .i64 .i64 0 (by omega) (by omega) w
  have HM := hid (fun W => merge_zero a1 cap1 (.slice none 0 0) [] none W)
  have HC0 := hid (fun W => cloneInts_zero a0 cap0 h0 W)
  have HC1 := hid (fun W => cloneInt32s_zero a1 cap1 h1 W)
  have HB := hid (fun W => bytes14 a0 a1 0 cap0 0 cap1 W (by omega) (by omega))
  clear h0 h1
  go_enter Try.func4, Try.ntmps4
  go_wp2_with fail
  refine (HB.out w).mono ?_
  rintro e w' ⟨⟨b, rfl⟩, rfl⟩
  go_wp2_with fail
  · go_ret; exact ⟨rfl, Below.refl _ _⟩
  refine (HM.out w).mono ?_
  rintro e w1 ⟨xb, xs, rfl, _, _, _, hbel1⟩
  have HBEL1 := hid hbel1
  clear hbel1
  go_wp2_with fail
  go_loopg [7] 0 (fun g vi wr => vi = .int .i64 1 ∧ Hid (wr = w1))
  case atStart => exact ⟨rfl, rfl⟩
  case round =>
    obtain ⟨rfl, HW⟩ := hrel
    have hw := HW.out
    subst hw
    clear HW
    go_wp2_with fail
    refine (HC0.out _).mono ?_
    rintro e w2 ⟨a0', c0', rfl, hbel2⟩
    have HBEL2 : Hid (Below w.heap.size w w2) := HBEL1.out.trans (hbel2.mono HBEL1.out.size)
    clear hbel2 HBEL1
    go_wp2_with fail
    refine (HC1.out _).mono ?_
    rintro e w3 ⟨a1', c1', rfl, hbel3⟩
    have HBEL3 : Hid (Below w.heap.size w w3) := HBEL2.out.trans (hbel3.mono HBEL2.out.size)
    clear hbel3 HBEL2
    go_wp2_with fail
    go_loopg [9] 0 (fun g vi wr => vi = .int .i64 0 ∧ Hid (Blk wr w3.heap.size [.slice none 0 0] 32 ∧ Below w.heap.size w wr))
    case atStart => exact ⟨rfl, Blk.new w3 _ _, HBEL3.out.alloc HBEL3.out.size _⟩
    case round =>
      obtain ⟨rfl, HI⟩ := hrel
      go_wp2_with fail
      go_loopg [12] 0 (fun g vi wr => vi = .int .i64 0 ∧ Hid (Blk wr w3.heap.size [.slice none 0 0] 32 ∧ Below w.heap.size w wr))
      case atStart => exact ⟨rfl, HI.out.1.alloc _, HI.out.2.alloc HI.out.2.size _⟩
      case round =>
        clear HI hmk
        obtain ⟨rfl, HI⟩ := hrel
        have c1 : wr.cell? ⟨w3.heap.size, 0, none⟩ = some (.slice none 0 0) := by rw [HI.out.1.cell]; rfl
        go_wp2_with fail
        go_ret
        exact ⟨rfl, HI.out.2⟩

end Go.Proofs.Qxb6601127a
