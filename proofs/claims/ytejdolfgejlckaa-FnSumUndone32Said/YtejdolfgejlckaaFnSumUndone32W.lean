/- The walk of the law FnSumUndone32: out of the contracts of what it calls, it returns true; nothing that was in memory changes. -/
import Derived.Test.YtejdolfgejlckaaWalkW
import Derived.Test.YtejdolfgejlckaaLaw
namespace Go.Proofs.Ytejdolfgejlckaa
open Go.RowKit
set_option linter.unusedVariables false
set_option maxRecDepth 100000 in
set_option maxHeartbeats 4000000 in
theorem walk_FnSumUndone32 (x : Int) (y : Int) (c : Bool) (hx : U32 x) (hy : U32 y) (w : World) :
    Calls Try.prog 5 #[.int .u32 x, .int .u32 y, .bool c] w fun e w' => e = .returned (.bool true) ∧ Below w.heap.size w w' := by
  have hk := B1_bitI c
  have hk0 : 0 ≤ bitI c := hk.1
  have hk1 : bitI c ≤ 1 := hk.2
  have H := undone32 hx hy hk
  have hs1 := beq_of H.1
  have hs2 := beq_of H.2.1
  have hs3 := beq_of H.2.2.1
  have hs4 := beq_of H.2.2.2.1
  have hs5 := beq_of H.2.2.2.2.1
  have hs6 := beq_of H.2.2.2.2.2
  clear H
  go_enter Try.func5, Try.ntmps5
  go_wp2_with (first | (go_at_call 18; ((with_reducible refine (laws_bit _ _).mono ?_); rintro e w1 ⟨rfl, rfl⟩)) | (go_at_call 16; ((with_reducible refine (impl_Add32 _ _ _ (by first | assumption | exact U32_0 | exact U32_1 | exact U32_addS _ _ _ | exact U32_subD _ _ _ | exact U32_mulL _ _) (by first | assumption | exact U32_0 | exact U32_1 | exact U32_addS _ _ _ | exact U32_subD _ _ _ | exact U32_mulL _ _) (by first | assumption | exact B1_0 | exact B1_1) _).mono ?_); rintro e w1 ⟨rfl, rfl⟩)) | (go_at_call 19; ((with_reducible refine (impl_Sub32 _ _ _ (by first | assumption | exact U32_0 | exact U32_1 | exact U32_addS _ _ _ | exact U32_subD _ _ _ | exact U32_mulL _ _) (by first | assumption | exact U32_0 | exact U32_1 | exact U32_addS _ _ _ | exact U32_subD _ _ _ | exact U32_mulL _ _) (by first | assumption | exact B1_0 | exact B1_1) _).mono ?_); rintro e w1 ⟨rfl, rfl⟩)))
  go_ret
  exact ⟨rfl, Below.refl _ _⟩

end Go.Proofs.Ytejdolfgejlckaa
