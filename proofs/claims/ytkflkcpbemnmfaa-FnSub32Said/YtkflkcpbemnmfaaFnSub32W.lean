/- The walk of the law FnSub32: out of the contracts of what it calls, it returns true; nothing that was in memory changes. -/
import Derived.Test.YtkflkcpbemnmfaaSpecW
import Derived.Test.YtkflkcpbemnmfaaWidth
import Derived.Test.YtkflkcpbemnmfaaLaw
namespace Go.Proofs.Ytkflkcpbemnmfaa
open Go.RowKit
set_option linter.unusedVariables false
set_option maxRecDepth 100000 in
set_option maxHeartbeats 4000000 in
theorem walk_FnSub32 (x : Int) (y : Int) (c : Bool) (hx : U32 x) (hy : U32 y) (w : World) :
    Calls Try.prog 8 #[.int .u32 x, .int .u32 y, .bool c] w fun e w' => e = .returned (.bool true) ∧ Below w.heap.size w w' := by
  have hk := B1_bitI c
  have hk0 : 0 ≤ bitI c := hk.1
  have hk1 : bitI c ≤ 1 := hk.2
  have hb := B1_subB32 x y (bitI c)
  have hb0 := hb.1
  have hb1 := hb.2
  have hs := U32_subD x y (bitI c)
  have hs0 := hs.1
  have hs1 := hs.2
  have hx0 := hx.1
  have hx1 := hx.2
  have hy0 := hy.1
  have hy1 := hy.2
  clear hb hs
  go_enter Try.func8, Try.ntmps8
  go_wp2_with (first | (go_at_call 20; ((with_reducible refine (laws_bit _ _).mono ?_); rintro e w1 ⟨rfl, rfl⟩)) | (go_at_call 25; ((with_reducible refine (impl_Sub32 _ _ _ (by first | assumption | exact U32_0 | exact U32_1 | exact U32_addS _ _ _ | exact U32_subD _ _ _ | exact U32_mulL _ _) (by first | assumption | exact U32_0 | exact U32_1 | exact U32_addS _ _ _ | exact U32_subD _ _ _ | exact U32_mulL _ _) (by first | assumption | exact B1_0 | exact B1_1) _).mono ?_); rintro e w1 ⟨rfl, rfl⟩)) | fail | (go_at_call 23; ((with_reducible refine (difference32 _ _ _ hx hy _).mono ?_); rintro e w1 ⟨rfl, HB⟩)))
  go_ret
  exact ⟨rfl, HB⟩

end Go.Proofs.Ytkflkcpbemnmfaa
