import Derived.Test.Qxb6601149aModel
namespace Go.Proofs.Qxb6601149a
open Go.RowKit
set_option linter.unusedVariables false
set_option linter.unusedSimpArgs false

/-- a slice of bytes that came in -/
def Row (k : IntKind) (w : World) (a : Option Addr) (len cap : Nat) (zs : List Int) : Prop :=
  (a = none ∧ len = 0 ∧ cap = 0 ∧ zs = []) ∨
  ∃ x, a = some x ∧ len ≤ cap ∧ cap ≤ maxLen ∧ zs.length = cap ∧ (∀ i, i < zs.length → w.cell? (x.add i) = some (.int k (zs.getD i 0))) ∧ ∀ n ∈ zs, (Lit.int k n).wf = true

theorem Row.cases {k : IntKind} {w : World} {a : Option Addr} {len cap : Nat} {zs : List Int} (h : Row k w a len cap zs) :
    (a = none ∧ len = 0 ∧ cap = 0) ∨ ∃ x, a = some x ∧ (zs.take len).length = len ∧ ∀ i, i < len → w.cell? (x.add i) = some (.int k ((zs.take len)[i]?.getD 0)) := by
  rcases h with ⟨h1, h2, h3, _⟩ | ⟨x, h1, h2, h3, h4, h5, h6⟩
  · exact .inl ⟨h1, h2, h3⟩
  · refine .inr ⟨x, h1, by rw [List.length_take]; omega, fun i hi => ?_⟩
    rw [h5 i (by omega), List.getD_eq_getElem?_getD]
    simp [hi]

theorem Row.len {k : IntKind} {w : World} {a : Option Addr} {len cap : Nat} {zs : List Int} (h : Row k w a len cap zs) : len ≤ 9223372036854775807 := by
  rcases h with ⟨_, h, _, _⟩ | ⟨x, h1, h2, h3, h4, h5, h6⟩
  · omega
  · unfold maxLen at h3; omega

theorem walk_any (stop : Bool) (b off n c : Nat) (bs : List Int) (w : World) (HL : Hid (bs.length = n)) (hn : n ≤ 4194304) (HB : Hid (Ints .u8 w b off bs)) :
    Calls Try.prog 26 #[.slice (some ⟨b, off, none⟩) n c, .bool stop] w fun e w' => e = .returned (.tuple #[.int .i64 (run stop 0 0 0 0 bs).1, .int .i64 (run stop 0 0 0 0 bs).2]) ∧ w = w' := by
  cases stop
  · exact walk_false b off n c bs w HL hn HB _ rfl
  · exact walk_true b off n c bs w HL hn HB _ rfl

theorem model_any (stop : Bool) (b off n c : Nat) (bs : List Int) (w : World) (HL : Hid (bs.length = n)) (hn : n ≤ 4194304) (HB : Hid (Ints .u8 w b off bs)) :
    Calls Try.prog 20 #[.slice (some ⟨b, off, none⟩) n c, .bool stop] w fun e w' => e = .returned (.tuple #[.int .i64 (run stop 0 0 0 0 bs).1, .int .i64 (run stop 0 0 0 0 bs).2]) ∧ Below w.heap.size w w' := by
  cases stop
  · exact model_false b off n c bs w HL hn HB _ rfl
  · exact model_true b off n c bs w HL hn HB _ rfl

set_option maxHeartbeats 400000 in
theorem walk_zero (stop : Bool) (a : Option Addr) (c : Nat) (w : World) :
    Calls Try.prog 26 #[.slice a 0 c, .bool stop] w fun e w' => e = .returned (.tuple #[.int .i64 (-1), .int .i64 0]) ∧ w = w' := by
  go_enter Try.func26, Try.ntmps26
  go_wp2
  go_loopg [5, 6, 7] 0 (fun g vd ve vi wr => vd = .int .i64 0 ∧ vi = .int .i64 0 ∧ Hid (w = wr))
  case atStart => exact ⟨rfl, rfl, rfl⟩
  case round =>
    obtain ⟨rfl, rfl, HW⟩ := hrel
    go_wp2
    go_ret2
    exact ⟨rfl, HW.out⟩

set_option maxHeartbeats 400000 in
set_option maxRecDepth 100000 in
theorem model_zero (stop : Bool) (a : Option Addr) (c : Nat) (w : World) :
    Calls Try.prog 20 #[.slice a 0 c, .bool stop] w fun e w' => e = .returned (.tuple #[.int .i64 (-1), .int .i64 0]) ∧ Below w.heap.size w w' := by
  have hmk : ∀ w, (Instr.makeSlice 22 (.int .i64 0) (.int .i64 0)).run Try.prog w = .ok (.slice (some ⟨w.heap.size, 0, none⟩) 0 0) (w.alloc (.cells (madeCells #[.int .u8 0] 0) 5)) :=
    fun w => run_make_row' (P := Try.prog) 22 5 (.int .u8 0) 1 Try.underlying22 Try.info5 rfl .i64 .i64 0 (by omega) (by omega) w
  go_enter Try.func20, Try.ntmps20
  go_wp2
  go_loopg [7, 8] 0 (fun g vs vi wr => vi = .int .i64 0 ∧ Hid (Below w.heap.size w wr))
  case atStart => exact ⟨rfl, (Below.refl _ _).alloc (Nat.le_refl _) _⟩
  case round =>
    obtain ⟨rfl, HE⟩ := hrel
    go_wp2
    go_loopg [10, 11, 12] 0 (fun g ve vd vj wr' => vd = .int .i64 0 ∧ vj = .int .i64 0 ∧ Hid (Below w.heap.size w wr'))
    case atStart => exact ⟨rfl, rfl, HE⟩
    case round =>
      obtain ⟨rfl, rfl, HE⟩ := hrel
      go_wp2
      go_ret2
      exact ⟨rfl, HE⟩

theorem zzwalk_of {v : Value} {stop : Bool} {w : World} {r1 r2 : Int} (h : Calls Try.prog 26 #[v, .bool stop] w fun e w' => e = .returned (.tuple #[.int .i64 r1, .int .i64 r2]) ∧ w = w') :
    Calls Try.prog 16 #[v, .bool stop] w fun e w' => e = .returned (.tuple #[.int .i64 r1, .int .i64 r2]) ∧ w = w' := by
  have H := hid h
  clear h
  go_enter Try.func16, Try.ntmps16
  go_wp2_with fail
  refine H.out.mono ?_
  rintro e w' ⟨rfl, rfl⟩
  go_wp2_with fail
  go_ret2
  exact ⟨rfl, rfl⟩

set_option maxHeartbeats 400000 in
theorem bytes19 (a0 : Option Addr) (n0 c0 : Nat) (s : Bool) (w : World) (h0 : n0 ≤ 9223372036854775807) :
    Calls Try.prog 19 #[.slice a0 n0 c0, .bool s] w fun e w' => (∃ b, e = .returned (.bool b)) ∧ w = w' := by
  go_enter Try.func19, Try.ntmps19
  go_wp2
  all_goals (go_ret; exact ⟨⟨_, rfl⟩, rfl⟩)

set_option maxHeartbeats 400000 in
theorem bytes21 (a0 a1 : Option Addr) (n0 c0 n1 c1 : Nat) (w : World) (h0 : n0 ≤ 9223372036854775807) (h1 : n1 ≤ 9223372036854775807) :
    Calls Try.prog 21 #[.slice a0 n0 c0, .slice a1 n1 c1] w fun e w' => (∃ b, e = .returned (.bool b)) ∧ w = w' := by
  go_enter Try.func21, Try.ntmps21
  go_wp2
  all_goals (go_ret; exact ⟨⟨_, rfl⟩, rfl⟩)

set_option maxHeartbeats 1000000 in
set_option maxRecDepth 100000 in
theorem matchLaw_some (x : Addr) (n c : Nat) (bs : List Int) (stop : Bool) (w : World) (HL : Hid (bs.length = n)) (b0 : n ≤ 9223372036854775807)
    (HZ : Hid (∀ i, i < n → w.cell? (x.add i) = some (.int .u8 (bs[i]?.getD 0)))) :
    Calls Try.prog 5 #[.slice (some x) n c, .bool stop] w fun e w' => e = .returned (.bool true) ∧ Below w.heap.size w w' := by
  have HB := hid (fun W => bytes19 (some x) n c stop W b0)
  by_cases hn : n ≤ 1048576
  · have HCL := hid (clone_some x c bs n HL w (by omega) HZ.out)
    generalize hr : run stop 0 0 0 0 bs = r
    obtain ⟨r1, r2⟩ := r
    have HR := hid hr
    clear hr HZ
    have HWK := hid (fun W HI => by have := walk_any stop w.heap.size 0 n n bs W HL (by omega) HI; rw [HR.out] at this; exact zzwalk_of this)
    have HMD := hid (fun W HI => by have := model_any stop w.heap.size 0 n n bs W HL (by omega) HI; rw [HR.out] at this; exact this)
    have he1 : (r1 == r1) = true := by simp
    have he2 : (r2 == r2) = true := by simp
    go_enter Try.func5, Try.ntmps5
    go_wp2_with fail
    refine (HB.out w).mono ?_
    rintro e w' ⟨⟨b, rfl⟩, rfl⟩
    go_wp2_with fail
    · go_ret; exact ⟨rfl, Below.refl _ _⟩
    refine HCL.out.mono ?_
    rintro e w1 ⟨rfl, h1, h2, h3⟩
    have H1 : Hid (Ints .u8 w1 w.heap.size 0 bs) := Ints.of_blk h1
    have H2 := hid h2
    clear h1 h2 h3
    go_wp2_with fail
    refine (HWK.out w1 H1).mono ?_
    rintro e w2 ⟨rfl, rfl⟩
    go_wp2_with fail
    refine (HMD.out w1 H1).mono ?_
    rintro e w3 ⟨rfl, h4⟩
    have H4 : Hid (Below w.heap.size w w3) := H2.out.trans (h4.mono H2.out.size)
    clear h4
    go_wp2_with fail
    go_ret
    exact ⟨rfl, H4⟩
  · go_enter Try.func5, Try.ntmps5
    go_wp2_with fail
    refine (HB.out w).mono ?_
    rintro e w' ⟨⟨b, rfl⟩, rfl⟩
    go_wp2_with fail
    all_goals (go_ret; exact ⟨rfl, Below.refl _ _⟩)

set_option maxHeartbeats 1000000 in
set_option maxRecDepth 100000 in
theorem matchLaw_nil (stop : Bool) (w : World) :
    Calls Try.prog 5 #[.slice none 0 0, .bool stop] w fun e w' => e = .returned (.bool true) ∧ Below w.heap.size w w' := by
  have HB := hid (fun W => bytes19 none 0 0 stop W (by omega))
  go_enter Try.func5, Try.ntmps5
  go_wp2_with fail
  refine (HB.out w).mono ?_
  rintro e w' ⟨⟨b, rfl⟩, rfl⟩
  go_wp2_with fail
  · go_ret; exact ⟨rfl, Below.refl _ _⟩
  refine (clone_nil w).mono ?_
  rintro e w1 ⟨rfl, rfl⟩
  go_wp2_with fail
  refine (zzwalk_of (walk_zero stop none 0 w)).mono ?_
  rintro e w2 ⟨rfl, rfl⟩
  go_wp2_with fail
  refine (model_zero stop none 0 w).mono ?_
  rintro e w3 ⟨rfl, h4⟩
  have H4 := hid h4
  clear h4
  go_wp2_with fail
  go_ret
  exact ⟨rfl, H4⟩

theorem matchLaw (a0 : Option Addr) (len0 cap0 : Nat) (z0 : List Int) (a1 : Bool) (w : World) (w0 : Row .u8 w a0 len0 cap0 z0) :
    Calls Try.prog 5 #[.slice a0 len0 cap0, .bool a1] w fun e w' => e = .returned (.bool true) ∧ Below w.heap.size w w' := by
  have hl := w0.len
  rcases w0.cases with ⟨rfl, rfl, rfl⟩ | ⟨x, rfl, h1, h2⟩
  · exact matchLaw_nil a1 w
  · exact matchLaw_some x len0 cap0 (z0.take len0) a1 w h1 hl h2

end Go.Proofs.Qxb6601149a
