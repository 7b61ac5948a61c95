/- The walk of the law FnCarries32: out of the contracts of what it calls, it returns true; nothing that was in memory changes. -/
import Derived.Test.YtejdolfgejlckaaLen
import Derived.Test.YtejdolfgejlckaaLaw
namespace Go.Proofs.Ytejdolfgejlckaa
open Go.RowKit
set_option linter.unusedVariables false
set_option maxRecDepth 100000 in
set_option maxHeartbeats 4000000 in
theorem walk_FnCarries32 (x : Int) (y : Int) (c : Bool) (hx : U32 x) (hy : U32 y) (w : World) :
    Calls Try.prog 7 #[.int .u32 x, .int .u32 y, .bool c] w fun e w' => e = .returned (.bool true) ∧ Below w.heap.size w w' := by
  have hk := B1_bitI c
  have hk0 : 0 ≤ bitI c := hk.1
  have hk1 : bitI c ≤ 1 := hk.2
  have hk2 : B1 (1 - bitI c) := by unfold B1; omega
  have hn := not32 y hy
  generalize hN : bits .xor .u32 IntKind.u32.max y = ny at hn
  have un : U32 ny := by unfold U32 at *; omega
  have H := comp32 hx hy hk hn
  have hs1 := beq_of (carry32 x y (bitI c) hx hy hk)
  have hs2 := beq_of H.1
  have hs3 := beq_of H.2
  have hb := B1_subB32 x y (bitI c)
  have hb0 : 0 ≤ subB32 x y (bitI c) := hb.1
  have hb1 : subB32 x y (bitI c) ≤ 1 := hb.2
  have hsg : IntKind.u32.signed = false := rfl
  clear H hb hn
  go_enter Try.func7, Try.ntmps7
  go_wp2_with (first | (go_at_call 18; ((with_reducible refine (laws_bit _ _).mono ?_); rintro e w1 ⟨rfl, rfl⟩)) | (go_at_call 16; ((with_reducible refine (impl_Add32 _ _ _ (by first | assumption | exact U32_0 | exact U32_1 | exact U32_addS _ _ _ | exact U32_subD _ _ _ | exact U32_mulL _ _) (by first | assumption | exact U32_0 | exact U32_1 | exact U32_addS _ _ _ | exact U32_subD _ _ _ | exact U32_mulL _ _) (by first | assumption | exact B1_0 | exact B1_1) _).mono ?_); rintro e w1 ⟨rfl, rfl⟩)) | (go_at_call 19; ((with_reducible refine (impl_Sub32 _ _ _ (by first | assumption | exact U32_0 | exact U32_1 | exact U32_addS _ _ _ | exact U32_subD _ _ _ | exact U32_mulL _ _) (by first | assumption | exact U32_0 | exact U32_1 | exact U32_addS _ _ _ | exact U32_subD _ _ _ | exact U32_mulL _ _) (by first | assumption | exact B1_0 | exact B1_1) _).mono ?_); rintro e w1 ⟨rfl, rfl⟩)) | (go_at_call 20; ((with_reducible refine (impl_Len32_ones _).mono ?_); rintro e w1 ⟨rfl, rfl⟩)))
  go_ret
  exact ⟨rfl, Below.refl _ _⟩

end Go.Proofs.Ytejdolfgejlckaa
