/- The walk of the law FnMul: out of the contracts of what it calls, it returns true; nothing that was in memory changes. -/
import Derived.Test.YtkflkcpbemnmfaaSpecW
import Derived.Test.YtkflkcpbemnmfaaWidth
import Derived.Test.YtkflkcpbemnmfaaLaw
namespace Go.Proofs.Ytkflkcpbemnmfaa
open Go.RowKit
set_option linter.unusedVariables false
set_option maxRecDepth 100000 in
set_option maxHeartbeats 4000000 in
theorem walk_FnMul (x : Int) (y : Int) (hx : U64 x) (hy : U64 y) (w : World) :
    Calls Try.prog 13 #[.int .u64 x, .int .u64 y] w fun e w' => e = .returned (.bool true) ∧ Below w.heap.size w w' := by
  have h1 := U64_mulH hx hy
  have h2 := U64_mulL x y
  have h10 := h1.1
  have h11 := h1.2
  have h20 := h2.1
  have h21 := h2.2
  have hx0 := hx.1
  have hx1 := hx.2
  have hy0 := hy.1
  have hy1 := hy.2
  clear h1 h2
  go_enter Try.func13, Try.ntmps13
  go_wp2_with (first | (go_at_call 32; ((with_reducible refine (impl_Mul _ _ (by first | assumption | exact U64_0 | exact U64_1 | exact U64_addS _ _ _ | exact U64_subD _ _ _ | exact U64_mulL _ _) (by first | assumption | exact U64_0 | exact U64_1 | exact U64_addS _ _ _ | exact U64_subD _ _ _ | exact U64_mulL _ _) _).mono ?_); rintro e w1 ⟨rfl, rfl⟩)) | (go_at_call 30; ((with_reducible refine (spec_Width _).mono ?_); rintro e w1 ⟨rfl, rfl⟩)) | (go_at_call 16; ((with_reducible refine (product64 _ _ hx hy _).mono ?_); rintro e w1 ⟨rfl, HB⟩)))
  go_ret
  exact ⟨rfl, HB⟩

end Go.Proofs.Ytkflkcpbemnmfaa
