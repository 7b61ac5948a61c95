/- The walk of the law FnCarries: out of the contracts of what it calls, it returns true; nothing that was in memory changes. -/
import Derived.Test.YtmbodpmegaekjaaLen
import Derived.Test.YtmbodpmegaekjaaLaw
namespace Go.Proofs.Ytmbodpmegaekjaa
open Go.RowKit
set_option linter.unusedVariables false
set_option maxRecDepth 100000 in
set_option maxHeartbeats 4000000 in
theorem walk_FnCarries (x : Int) (y : Int) (c : Bool) (hx : U64 x) (hy : U64 y) (w : World) :
    Calls Try.prog 12 #[.int .u64 x, .int .u64 y, .bool c] w fun e w' => e = .returned (.bool true) ∧ Below w.heap.size w w' := by
  have hk := B1_bitI c
  have hk0 : 0 ≤ bitI c := hk.1
  have hk1 : bitI c ≤ 1 := hk.2
  have hk2 : B1 (1 - bitI c) := by unfold B1; omega
  have hn := not64 y hy
  generalize hN : bits .xor .u64 IntKind.u64.max y = ny at hn
  have un : U64 ny := by unfold U64 at *; omega
  have H := comp64 hx hy hk hn
  have hs1 := beq_of (carry64 x y (bitI c) hx hy hk)
  have hs2 := beq_of H.1
  have hs3 := beq_of H.2
  have hb := B1_subB64 x y (bitI c)
  have hb0 : 0 ≤ subB64 x y (bitI c) := hb.1
  have hb1 : subB64 x y (bitI c) ≤ 1 := hb.2
  have hsg : IntKind.u64.signed = false := rfl
  clear H hb hn
  go_enter Try.func12, Try.ntmps12
  go_wp2_with (first | (go_at_call 23; ((with_reducible refine (laws_bit _ _).mono ?_); rintro e w1 ⟨rfl, rfl⟩)) | (go_at_call 20; ((with_reducible refine (impl_Add _ _ _ (by first | assumption | exact U64_0 | exact U64_1 | exact U64_addS _ _ _ | exact U64_subD _ _ _ | exact U64_mulL _ _) (by first | assumption | exact U64_0 | exact U64_1 | exact U64_addS _ _ _ | exact U64_subD _ _ _ | exact U64_mulL _ _) (by first | assumption | exact B1_0 | exact B1_1) _).mono ?_); rintro e w1 ⟨rfl, rfl⟩)) | (go_at_call 27; ((with_reducible refine (impl_Sub _ _ _ (by first | assumption | exact U64_0 | exact U64_1 | exact U64_addS _ _ _ | exact U64_subD _ _ _ | exact U64_mulL _ _) (by first | assumption | exact U64_0 | exact U64_1 | exact U64_addS _ _ _ | exact U64_subD _ _ _ | exact U64_mulL _ _) (by first | assumption | exact B1_0 | exact B1_1) _).mono ?_); rintro e w1 ⟨rfl, rfl⟩)) | (go_at_call 28; ((with_reducible refine (impl_Len_ones _).mono ?_); rintro e w1 ⟨rfl, rfl⟩)))
  go_ret
  exact ⟨rfl, Below.refl _ _⟩

end Go.Proofs.Ytmbodpmegaekjaa
