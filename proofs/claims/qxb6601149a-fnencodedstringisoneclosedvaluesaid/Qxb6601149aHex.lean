import Derived.Test.Qxb6601149aBase
import Derived.Test.Qxb6601149aEnc
namespace Go.Proofs.Qxb6601149a
open Go.RowKit
theorem hex_index (k : Nat) (hk : k < 16) (W : World) : (Instr.index 9 (.string ⟨#[48, 49, 50, 51, 52, 53, 54, 55, 56, 57, 97, 98, 99, 100, 101, 102]⟩) (.int .u8 (k : Int))).run Try.prog W = .ok (.int .u8 (hexd k)) W := by
  have h : k = 0 ∨ k = 1 ∨ k = 2 ∨ k = 3 ∨ k = 4 ∨ k = 5 ∨ k = 6 ∨ k = 7 ∨ k = 8 ∨ k = 9 ∨ k = 10 ∨ k = 11 ∨ k = 12 ∨ k = 13 ∨ k = 14 ∨ k = 15 := by omega
  rcases h with rfl | rfl | rfl | rfl | rfl | rfl | rfl | rfl | rfl | rfl | rfl | rfl | rfl | rfl | rfl | rfl
  all_goals rfl

theorem and15_all : ∀ c : Fin 32, bits BinOp.and IntKind.u8 ((c.val : Nat) : Int) 15 = ((c.val : Nat) : Int) % 16 := by decide +kernel
theorem and15 (c : Nat) (h : c < 32) : bits BinOp.and IntKind.u8 (c : Int) 15 = (c : Int) % 16 := and15_all ⟨c, h⟩
end Go.Proofs.Qxb6601149a
