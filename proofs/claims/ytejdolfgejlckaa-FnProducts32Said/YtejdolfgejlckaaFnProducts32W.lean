/- The walk of the law FnProducts32: out of the contracts of what it calls, it returns true; nothing that was in memory changes. -/
import Derived.Test.YtejdolfgejlckaaWidth
import Derived.Test.YtejdolfgejlckaaLaw
namespace Go.Proofs.Ytejdolfgejlckaa
open Go.RowKit
set_option linter.unusedVariables false
set_option maxRecDepth 100000 in
set_option maxHeartbeats 4000000 in
theorem walk_FnProducts32 (x : Int) (y : Int) (z : Int) (k : Int) (hx : U32 x) (hy : U32 y) (hz : U32 z) (hk : U64 k) (w : World) :
    Calls Try.prog 4 #[.int .u32 x, .int .u32 y, .int .u32 z, .int .u64 k] w fun e w' => e = .returned (.bool true) ∧ Below w.heap.size w w' := by
  have c1 := beq_of (mulH_comm32 x y)
  have c2 := beq_of (mulL_comm32 x y)
  have H := distrib32 hx hy hz
  have uh1 := U32_mulH hx hy
  have uh2 := U32_mulH hx hz
  have uh3 := U32_mulH hx (U32_addS y z 0)
  have bc := B1_addC32 (U32_mulL x y) (U32_mulL x z) B1_0
  have ex := u32wrap (x * addC32 y z 0)
  have ux : U32 (x * addC32 y z 0 % 4294967296) := by unfold U32; omega
  rw [← ex] at H ux
  clear ex
  generalize hxo : IntKind.u32.wrap (x * addC32 y z 0) = xo at H ux
  have s1 := beq_of H.1
  have s2 := beq_of H.2.1
  have s3 := beq_of H.2.2
  clear H
  have hk0 : 0 ≤ k := hk.1
  obtain ⟨K, hK⟩ := Int.eq_ofNat_of_zero_le (Int.emod_nonneg k (show (32 : Int) ≠ 0 by omega))
  have hKl : K < 32 := by omega
  have hp := pow_in32 K hKl
  have up : U32 (2 ^ K) := hp
  have pw : IntKind.u32.wrap (2 ^ K) = 2 ^ K := by rw [u32wrap]; exact Int.emod_eq_of_lt hp.1 hp.2
  have hq := up32 x K hx hKl (2 ^ K) rfl
  rw [← u32wrap] at hq
  have s4 := beq_of hq.1
  have s5 := beq_of hq.2
  clear hq hp
  go_enter Try.func4, Try.ntmps4
  go_wp2_with (first | (go_at_call 15; ((with_reducible refine (impl_Mul32 _ _ (by first | assumption | exact U32_0 | exact U32_1 | exact U32_addS _ _ _ | exact U32_subD _ _ _ | exact U32_mulL _ _) (by first | assumption | exact U32_0 | exact U32_1 | exact U32_addS _ _ _ | exact U32_subD _ _ _ | exact U32_mulL _ _) _).mono ?_); rintro e w1 ⟨rfl, rfl⟩)) | (go_at_call 16; ((with_reducible refine (impl_Add32 _ _ _ (by first | assumption | exact U32_0 | exact U32_1 | exact U32_addS _ _ _ | exact U32_subD _ _ _ | exact U32_mulL _ _) (by first | assumption | exact U32_0 | exact U32_1 | exact U32_addS _ _ _ | exact U32_subD _ _ _ | exact U32_mulL _ _) (by first | assumption | exact B1_0 | exact B1_1) _).mono ?_); rintro e w1 ⟨rfl, rfl⟩)) | (go_at_call 17; refine (spec_Width _).mono ?_; rintro e w1 ⟨rfl, rfl⟩))
  go_ret
  exact ⟨rfl, Below.refl _ _⟩

end Go.Proofs.Ytejdolfgejlckaa
