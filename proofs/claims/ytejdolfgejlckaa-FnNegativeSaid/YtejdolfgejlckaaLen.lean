/- The contracts of impl.Len and its kin at all ones, and at every number for 64 bits. -/
import Derived.Test.YtejdolfgejlckaaWalkD
namespace Go.Proofs.Ytejdolfgejlckaa
open Go.RowKit
theorem impl_Len64 (x : Int) (hx : U64 x) (w : World) : Calls Try.prog 47 #[.int .u64 x] w fun e w' => e = .returned (.int .i64 (bitLen x.toNat)) ∧ w = w' := by
  go_enter Try.func47, Try.ntmps47
  go_wp2_with (go_at_call 48; refine (bits_Len64 x hx _).mono ?_; rintro e w' ⟨rfl, rfl⟩)
  go_ret
  exact ⟨rfl, rfl⟩
theorem bitLen_ones64 : bitLen (18446744073709551615 : Int).toNat = 64 := by decide
theorem impl_Len64_ones (w : World) : Calls Try.prog 47 #[.int .u64 18446744073709551615] w fun e w' => e = .returned (.int .i64 64) ∧ w = w' := by
  have h := impl_Len64 18446744073709551615 (by unfold U64; omega) w
  rw [bitLen_ones64] at h
  exact h
set_option maxHeartbeats 4000000 in
set_option maxRecDepth 100000 in
theorem impl_Len32_ones (w : World) : Calls Try.prog 20 #[.int .u32 4294967295] w fun e w' => e = .returned (.int .i64 32) ∧ w = w' := by
  go_enter Try.func20, Try.ntmps20
  go_wp2
  go_ret
  exact ⟨ret1 (by rw [len8tab_get, show bitLen 255 = 8 by decide]; unfold wrap64; omega), rfl⟩
end Go.Proofs.Ytejdolfgejlckaa
