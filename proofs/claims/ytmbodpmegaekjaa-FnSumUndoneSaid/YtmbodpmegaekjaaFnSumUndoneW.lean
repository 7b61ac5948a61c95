/- The walk of the law FnSumUndone: out of the contracts of what it calls, it returns true; nothing that was in memory changes. -/
import Derived.Test.YtmbodpmegaekjaaWalkW
import Derived.Test.YtmbodpmegaekjaaLaw
namespace Go.Proofs.Ytmbodpmegaekjaa
open Go.RowKit
set_option linter.unusedVariables false
set_option maxRecDepth 100000 in
set_option maxHeartbeats 4000000 in
theorem walk_FnSumUndone (x : Int) (y : Int) (c : Bool) (hx : U64 x) (hy : U64 y) (w : World) :
    Calls Try.prog 9 #[.int .u64 x, .int .u64 y, .bool c] w fun e w' => e = .returned (.bool true) ∧ Below w.heap.size w w' := by
  have hk := B1_bitI c
  have H := undone64 hx hy hk
  have hs1 := beq_of H.1
  have hs2 := beq_of H.2.1
  have hs3 := beq_of H.2.2.1
  have hs4 := beq_of H.2.2.2.1
  have hs5 := beq_of H.2.2.2.2.1
  have hs6 := beq_of H.2.2.2.2.2
  clear H
  go_enter Try.func9, Try.ntmps9
  go_wp2_with (first | (go_at_call 23; ((with_reducible refine (laws_bit _ _).mono ?_); rintro e w1 ⟨rfl, rfl⟩)) | (go_at_call 20; ((with_reducible refine (impl_Add _ _ _ (by first | assumption | exact U64_0 | exact U64_1 | exact U64_addS _ _ _ | exact U64_subD _ _ _ | exact U64_mulL _ _) (by first | assumption | exact U64_0 | exact U64_1 | exact U64_addS _ _ _ | exact U64_subD _ _ _ | exact U64_mulL _ _) (by first | assumption | exact B1_0 | exact B1_1) _).mono ?_); rintro e w1 ⟨rfl, rfl⟩)) | (go_at_call 27; ((with_reducible refine (impl_Sub _ _ _ (by first | assumption | exact U64_0 | exact U64_1 | exact U64_addS _ _ _ | exact U64_subD _ _ _ | exact U64_mulL _ _) (by first | assumption | exact U64_0 | exact U64_1 | exact U64_addS _ _ _ | exact U64_subD _ _ _ | exact U64_mulL _ _) (by first | assumption | exact B1_0 | exact B1_1) _).mono ?_); rintro e w1 ⟨rfl, rfl⟩)))
  go_ret
  exact ⟨rfl, Below.refl _ _⟩

end Go.Proofs.Ytmbodpmegaekjaa
