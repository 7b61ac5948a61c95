/- The contracts of impl.Len and its kin at all ones, and at every number for 64 bits. -/
import Derived.Test.YtmbodpmegaekjaaWalkD
namespace Go.Proofs.Ytmbodpmegaekjaa
open Go.RowKit
theorem impl_Len64 (x : Int) (hx : U64 x) (w : World) : Calls Try.prog 26 #[.int .u64 x] w fun e w' => e = .returned (.int .i64 (bitLen x.toNat)) ∧ w = w' := by
  go_enter Try.func26, Try.ntmps26
  go_wp2_with (go_at_call 42; refine (bits_Len64 x hx _).mono ?_; rintro e w' ⟨rfl, rfl⟩)
  go_ret
  exact ⟨rfl, rfl⟩
theorem bitLen_ones64 : bitLen (18446744073709551615 : Int).toNat = 64 := by decide
theorem impl_Len64_ones (w : World) : Calls Try.prog 26 #[.int .u64 18446744073709551615] w fun e w' => e = .returned (.int .i64 64) ∧ w = w' := by
  have h := impl_Len64 18446744073709551615 (by unfold U64; omega) w
  rw [bitLen_ones64] at h
  exact h
theorem impl_Len_ones (w : World) : Calls Try.prog 28 #[.int .u64 18446744073709551615] w fun e w' => e = .returned (.int .i64 64) ∧ w = w' := by
  have h := bits_Len64 18446744073709551615 (by unfold U64; omega)
  rw [bitLen_ones64] at h
  have H := hide h
  clear h
  go_enter Try.func28, Try.ntmps28
  go_wp2_with (first | (go_at_call 42; refine (H.out _).mono ?_; rintro e w' ⟨rfl, rfl⟩) | (go_at_call 44; go_in))
  go_ret
  exact ⟨rfl, rfl⟩
end Go.Proofs.Ytmbodpmegaekjaa
