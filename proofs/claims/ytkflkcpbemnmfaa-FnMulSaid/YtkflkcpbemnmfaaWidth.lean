/- The contract of the reference's Width: 64. -/
import Derived.Test.YtkflkcpbemnmfaaLaw
namespace Go.Proofs.Ytkflkcpbemnmfaa
open Go.RowKit
/-- What is left of all ones when k of them are shifted out. -/
def onesLeft (k : Nat) : Nat := 18446744073709551615 / 2 ^ k
theorem onesLeft_step (k : Nat) : ((onesLeft k : Nat) : Int) / 2 = ((onesLeft (k + 1) : Nat) : Int) := by
  unfold onesLeft
  rw [Nat.pow_succ, ← Nat.div_div_eq_div_mul]
  generalize 18446744073709551615 / 2 ^ k = n
  omega
theorem onesLeft_pos : ∀ k, k < 64 → onesLeft k ≠ 0 := by decide
theorem onesLeft_64 : onesLeft 64 = 0 := by decide
theorem onesLeft_0 : (18446744073709551615 : Int) = ((onesLeft 0 : Nat) : Int) := by decide
set_option maxRecDepth 100000 in
theorem spec_Width (w : World) : Calls Try.prog 30 #[] w fun e w' => e = .returned (.int .i64 64) ∧ w = w' := by
  go_enter Try.func30, Try.ntmps30
  go_wp2_with fail
  go_loop [1, 2] (fun n x => ∃ k : Nat, k ≤ 64 ∧ n = .int .i64 k ∧ x = .int .u64 (onesLeft k : Nat)) (fun n _ => 64 - (intOf n).toNat)
  case atStart => exact ⟨0, by omega, rfl, congrArg _ onesLeft_0⟩
  case round =>
    obtain ⟨k, hk, rfl, rfl⟩ := hrel
    by_cases hlt : k < 64
    · have hne : (((onesLeft k : Nat) : Int) != 0) = true := by have := onesLeft_pos k hlt; simp; omega
      have hst := onesLeft_step k
      go_wp2_with fail
      go_round
      case rel => exact ⟨k + 1, by omega, by go_num, rfl⟩
      case measure => simp [intOf]; omega
    · obtain rfl : k = 64 := by omega
      have hne : (((onesLeft 64 : Nat) : Int) != 0) = false := by rw [onesLeft_64]; rfl
      go_wp2_with fail
      go_ret
      exact ⟨rfl, rfl⟩
end Go.Proofs.Ytkflkcpbemnmfaa
