import Derived.Test.Qxb6601127aGSmall
namespace Go.Proofs.Qxb6601127a
open Go.RowKit
set_option linter.unusedVariables false
set_option linter.unusedSimpArgs false

set_option maxRecDepth 100000 in
set_option maxHeartbeats 1000000 in
theorem first_call (sb gb g : Nat) (r sh nodes : Nat) (w : World) (hr : r ≤ 65536) (hsh : sh ≤ 6) (hn : nodes ≤ 65536)
    (c1 : w.cell? ⟨sb, 0, none⟩ = some (.int .i64 (sh : Int))) (c2 : w.cell? ⟨gb, 0, none⟩ = some (.pointer (some ⟨g, 0, none⟩)))
    (c3 : w.cell? ⟨g, 1, none⟩ = some (.int .i64 (nodes : Int))) :
    Calls Try.prog 36 #[.int .i64 (r : Int), .pointer (some ⟨sb, 0, none⟩), .pointer (some ⟨gb, 0, none⟩)] w fun e w' => e = .returned (.int .i64 ((min (r * 2 ^ sh) nodes : Nat) : Int)) ∧ w.drew = w' := by
  have h2 : 2 ^ sh ≤ 64 := by
    have := Nat.pow_le_pow_right (n := 2) (by omega) hsh
    simpa using this
  have h3 : r * 2 ^ sh ≤ 65536 * 64 := Nat.mul_le_mul hr h2
  have h5 : wrap64 ((r : Int) * 2 ^ sh) = ((r * 2 ^ sh : Nat) : Int) := by
    have h4 : ((r : Int) * 2 ^ sh) = ((r * 2 ^ sh : Nat) : Int) := by push_cast; rfl
    rw [h4]
    generalize r * 2 ^ sh = x at *
    unfold wrap64; omega
  generalize r * 2 ^ sh = x at *
  go_enter Try.func36, Try.ntmps36
  go_wp2_with fail
  go_region
  go_wp2_with fail
  all_goals
    go_ret
    refine ⟨?_, rfl⟩
    simp
    omega

theorem and511 (p : Nat) (hp : p ≤ 1048576) : bits .and .i64 (p : Int) 511 = ((p % 512 : Nat) : Int) := by
  have h1 : (BitVec.ofInt 64 (p : Int)).toNat = p := by
    rw [BitVec.ofInt_natCast, BitVec.toNat_ofNat]; exact Nat.mod_eq_of_lt (by omega)
  have h2 : (BitVec.ofInt 64 (511 : Int)).toNat = 511 := by decide
  have h3 : p &&& 511 = p % 512 := Nat.and_two_pow_sub_one_eq_mod p 9
  have hlt : p % 512 < 512 := Nat.mod_lt _ (by omega)
  show IntKind.i64.wrap ((BitVec.ofInt 64 (p : Int) &&& BitVec.ofInt 64 (511 : Int)).toNat : Int) = _
  rw [BitVec.toNat_and, h1, h2, h3]
  generalize p % 512 = x at hlt
  simp only [IntKind.wrap_i64]
  omega

set_option maxRecDepth 100000 in
set_option maxHeartbeats 1000000 in
theorem set_call (ob n cap p b l c : Nat) (e : Int × Int × Int) (w : World) (hp : p / 512 < n) (hl : p % 512 < l) (hlc : l ≤ c) (hn : n ≤ 1048576) (hcap : n ≤ cap) (hpb : p ≤ 1048576)
    (c1 : w.cell? ⟨ob, p / 512, none⟩ = some (.slice (some ⟨b, 0, none⟩) l c))
    (es : List (Int × Int × Int)) (hes : es.length = l) (HP : Hid (PartAt w b c es)) :
    Calls Try.prog 39 #[.slice (some ⟨ob, 0, none⟩) n cap, .int .i64 (p : Int), .agg #[.int .i32 e.1, .int .i32 e.2.1, .int .u32 e.2.2]] w fun e' w' => e' = .returned (.tuple #[]) ∧ ((set3 w b (p % 512) e).alloc (.cells #[.int .i32 e.1, .int .i32 e.2.1, .int .u32 e.2.2] 70)).drew = w' := by
  have hg := HP.out.get (i := p % 512) (by omega)
  obtain ⟨g1, g2, g3⟩ := hg
  have f1 := HP.out.frozen (p % 512 * 3)
  have f2 := HP.out.frozen (p % 512 * 3 + 1)
  have f3 := HP.out.frozen (p % 512 * 3 + 2)
  have hob : ob < w.heap.size := World.block_lt_of_cell? w _ c1
  have hbb : b < w.heap.size := HP.out.lt
  have hand := and511 p (by omega)
  generalize hi : p % 512 = i at *
  generalize hq : p / 512 = q at *
  go_enter Try.func39, Try.ntmps39
  go_wp2_with fail
  go_region
  go_wp2_with fail
  go_end0
  refine ⟨rfl, ?_⟩
  unfold set3
  rfl

end Go.Proofs.Qxb6601127a
