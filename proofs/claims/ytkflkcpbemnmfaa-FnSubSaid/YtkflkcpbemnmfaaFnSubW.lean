/- The walk of the law FnSub: out of the contracts of what it calls, it returns true; nothing that was in memory changes. -/
import Derived.Test.YtkflkcpbemnmfaaSpecW
import Derived.Test.YtkflkcpbemnmfaaWidth
import Derived.Test.YtkflkcpbemnmfaaLaw
namespace Go.Proofs.Ytkflkcpbemnmfaa
open Go.RowKit
set_option linter.unusedVariables false
set_option maxRecDepth 100000 in
set_option maxHeartbeats 4000000 in
theorem walk_FnSub (x : Int) (y : Int) (c : Bool) (hx : U64 x) (hy : U64 y) (w : World) :
    Calls Try.prog 12 #[.int .u64 x, .int .u64 y, .bool c] w fun e w' => e = .returned (.bool true) ∧ Below w.heap.size w w' := by
  have hk := B1_bitI c
  have hk0 : 0 ≤ bitI c := hk.1
  have hk1 : bitI c ≤ 1 := hk.2
  have hb := B1_subB64 x y (bitI c)
  have hb0 := hb.1
  have hb1 := hb.2
  have hs := U64_subD x y (bitI c)
  have hs0 := hs.1
  have hs1 := hs.2
  have hx0 := hx.1
  have hx1 := hx.2
  have hy0 := hy.1
  have hy1 := hy.2
  clear hb hs
  go_enter Try.func12, Try.ntmps12
  go_wp2_with (first | (go_at_call 20; ((with_reducible refine (laws_bit _ _).mono ?_); rintro e w1 ⟨rfl, rfl⟩)) | (go_at_call 31; ((with_reducible refine (impl_Sub _ _ _ (by first | assumption | exact U64_0 | exact U64_1 | exact U64_addS _ _ _ | exact U64_subD _ _ _ | exact U64_mulL _ _) (by first | assumption | exact U64_0 | exact U64_1 | exact U64_addS _ _ _ | exact U64_subD _ _ _ | exact U64_mulL _ _) (by first | assumption | exact B1_0 | exact B1_1) _).mono ?_); rintro e w1 ⟨rfl, rfl⟩)) | (go_at_call 30; ((with_reducible refine (spec_Width _).mono ?_); rintro e w1 ⟨rfl, rfl⟩)) | (go_at_call 23; ((with_reducible refine (difference64 _ _ _ hx hy _).mono ?_); rintro e w1 ⟨rfl, HB⟩)))
  go_ret
  exact ⟨rfl, HB⟩

end Go.Proofs.Ytkflkcpbemnmfaa
