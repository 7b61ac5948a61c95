/- The walk of the law FnProducts: out of the contracts of what it calls, it returns true; nothing that was in memory changes. -/
import Derived.Test.YtmbodpmegaekjaaWidth
import Derived.Test.YtmbodpmegaekjaaLaw
namespace Go.Proofs.Ytmbodpmegaekjaa
open Go.RowKit
set_option linter.unusedVariables false
set_option maxRecDepth 100000 in
set_option maxHeartbeats 4000000 in
theorem walk_FnProducts (x : Int) (y : Int) (z : Int) (k : Int) (hx : U64 x) (hy : U64 y) (hz : U64 z) (hk : U64 k) (w : World) :
    Calls Try.prog 10 #[.int .u64 x, .int .u64 y, .int .u64 z, .int .u64 k] w fun e w' => e = .returned (.bool true) ∧ Below w.heap.size w w' := by
  have c1 := beq_of (mulH_comm64 x y)
  have c2 := beq_of (mulL_comm64 x y)
  have H := distrib64 hx hy hz
  have uh1 := U64_mulH hx hy
  have uh2 := U64_mulH hx hz
  have uh3 := U64_mulH hx (U64_addS y z 0)
  have bc := B1_addC64 (U64_mulL x y) (U64_mulL x z) B1_0
  have ex := u64wrap (x * addC64 y z 0)
  have ux : U64 (x * addC64 y z 0 % 18446744073709551616) := by unfold U64; omega
  rw [← ex] at H ux
  clear ex
  generalize hxo : IntKind.u64.wrap (x * addC64 y z 0) = xo at H ux
  have s1 := beq_of H.1
  have s2 := beq_of H.2.1
  have s3 := beq_of H.2.2
  clear H
  have hk0 : 0 ≤ k := hk.1
  obtain ⟨K, hK⟩ := Int.eq_ofNat_of_zero_le (Int.emod_nonneg k (show (64 : Int) ≠ 0 by omega))
  have hKl : K < 64 := by omega
  have hp := pow_in64 K hKl
  have up : U64 (2 ^ K) := hp
  have pw : IntKind.u64.wrap (2 ^ K) = 2 ^ K := by rw [u64wrap]; exact Int.emod_eq_of_lt hp.1 hp.2
  have hq := up64 x K hx hKl (2 ^ K) rfl
  rw [← u64wrap] at hq
  have s4 := beq_of hq.1
  have s5 := beq_of hq.2
  clear hq hp
  go_enter Try.func10, Try.ntmps10
  go_wp2_with (first | (go_at_call 19; ((with_reducible refine (impl_Mul _ _ (by first | assumption | exact U64_0 | exact U64_1 | exact U64_addS _ _ _ | exact U64_subD _ _ _ | exact U64_mulL _ _) (by first | assumption | exact U64_0 | exact U64_1 | exact U64_addS _ _ _ | exact U64_subD _ _ _ | exact U64_mulL _ _) _).mono ?_); rintro e w1 ⟨rfl, rfl⟩)) | (go_at_call 20; ((with_reducible refine (impl_Add _ _ _ (by first | assumption | exact U64_0 | exact U64_1 | exact U64_addS _ _ _ | exact U64_subD _ _ _ | exact U64_mulL _ _) (by first | assumption | exact U64_0 | exact U64_1 | exact U64_addS _ _ _ | exact U64_subD _ _ _ | exact U64_mulL _ _) (by first | assumption | exact B1_0 | exact B1_1) _).mono ?_); rintro e w1 ⟨rfl, rfl⟩)) | (go_at_call 25; refine (spec_Width _).mono ?_; rintro e w1 ⟨rfl, rfl⟩))
  go_ret
  exact ⟨rfl, Below.refl _ _⟩

end Go.Proofs.Ytmbodpmegaekjaa
