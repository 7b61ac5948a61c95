/- The walk of the law FnQuotientOfProduct32: out of the contracts of what it calls, it returns true; nothing that was in memory changes. -/
import Derived.Test.YtejdolfgejlckaaWalkDiv
import Derived.Test.YtejdolfgejlckaaLaw
namespace Go.Proofs.Ytejdolfgejlckaa
open Go.RowKit
set_option linter.unusedVariables false
set_option maxRecDepth 100000 in
set_option maxHeartbeats 4000000 in
theorem walk_FnQuotientOfProduct32 (x : Int) (y : Int) (more : Int) (hx : U32 x) (hy : U32 y) (hmore : U32 more) (w : World) :
    Calls Try.prog 6 #[.int .u32 x, .int .u32 y, .int .u32 more] w fun e w' => e = .returned (.bool true) ∧ Below w.heap.size w w' := by
  by_cases h0 : y = 0
  · subst h0
    have uMore := U32_0
    have u1 := U32_1
    have H := qop32 hx (u1) (y := 1) (more := 0) (by omega) (by omega) (by omega)
    have uM := U32_mulH (x := x) (y := 1) hx (u1)
    have bC := B1_addC32 (U32_mulL x (1)) (uMore) B1_0
    have hs1 := beq_of H.1
    have hs2 := H.2.1
    have hs3 := beq_of H.2.2.1
    have hs4 := beq_of H.2.2.2
    clear H
    have HB := Below.refl w.heap.size w
    go_enter Try.func6, Try.ntmps6
    go_wp2_with (first | (go_at_call 15; ((with_reducible refine (impl_Mul32 _ _ (by first | assumption | exact U32_0 | exact U32_1 | exact U32_addS _ _ _ | exact U32_subD _ _ _ | exact U32_mulL _ _) (by first | assumption | exact U32_0 | exact U32_1 | exact U32_addS _ _ _ | exact U32_subD _ _ _ | exact U32_mulL _ _) _).mono ?_); rintro e w1 ⟨rfl, rfl⟩)) | (go_at_call 16; ((with_reducible refine (impl_Add32 _ _ _ (by first | assumption | exact U32_0 | exact U32_1 | exact U32_addS _ _ _ | exact U32_subD _ _ _ | exact U32_mulL _ _) (by first | assumption | exact U32_0 | exact U32_1 | exact U32_addS _ _ _ | exact U32_subD _ _ _ | exact U32_mulL _ _) (by first | assumption | exact B1_0 | exact B1_1) _).mono ?_); rintro e w1 ⟨rfl, rfl⟩)) | (go_at_call 14; ((with_reducible refine (impl_Div32 _ _ _ (by first | assumption | exact U32_0 | exact U32_1 | exact U32_addS _ _ _ | exact U32_subD _ _ _ | exact U32_mulL _ _) (by first | assumption | exact U32_0 | exact U32_1 | exact U32_addS _ _ _ | exact U32_subD _ _ _ | exact U32_mulL _ _) (by first | assumption | exact U32_0 | exact U32_1 | exact U32_addS _ _ _ | exact U32_subD _ _ _ | exact U32_mulL _ _) (by first | assumption | omega) _).mono ?_); rintro e w1 ⟨rfl, hb⟩; replace HB := bt HB hb; clear hb)))
    go_ret
    exact ⟨rfl, HB⟩
  · have hy1 : 1 ≤ y := by unfold U32 at hy; omega
    have hy2 := hy
    have hm := mod_in32 hmore hy hy1
    have uMore := hm.1
    have hm0 : 0 ≤ more % y := uMore.1
    have hm1 := hm.2
    have hn0 : 0 ≤ more := hmore.1
    clear hm
    have H := qop32 hx (hy) (y := y) (more := more % y) (hy1) (hm0) (hm1)
    have uM := U32_mulH (x := x) (y := y) hx (hy)
    have bC := B1_addC32 (U32_mulL x (y)) (uMore) B1_0
    have hs1 := beq_of H.1
    have hs2 := H.2.1
    have hs3 := beq_of H.2.2.1
    have hs4 := beq_of H.2.2.2
    clear H
    have HB := Below.refl w.heap.size w
    go_enter Try.func6, Try.ntmps6
    go_wp2_with (first | (go_at_call 15; ((with_reducible refine (impl_Mul32 _ _ (by first | assumption | exact U32_0 | exact U32_1 | exact U32_addS _ _ _ | exact U32_subD _ _ _ | exact U32_mulL _ _) (by first | assumption | exact U32_0 | exact U32_1 | exact U32_addS _ _ _ | exact U32_subD _ _ _ | exact U32_mulL _ _) _).mono ?_); rintro e w1 ⟨rfl, rfl⟩)) | (go_at_call 16; ((with_reducible refine (impl_Add32 _ _ _ (by first | assumption | exact U32_0 | exact U32_1 | exact U32_addS _ _ _ | exact U32_subD _ _ _ | exact U32_mulL _ _) (by first | assumption | exact U32_0 | exact U32_1 | exact U32_addS _ _ _ | exact U32_subD _ _ _ | exact U32_mulL _ _) (by first | assumption | exact B1_0 | exact B1_1) _).mono ?_); rintro e w1 ⟨rfl, rfl⟩)) | (go_at_call 14; ((with_reducible refine (impl_Div32 _ _ _ (by first | assumption | exact U32_0 | exact U32_1 | exact U32_addS _ _ _ | exact U32_subD _ _ _ | exact U32_mulL _ _) (by first | assumption | exact U32_0 | exact U32_1 | exact U32_addS _ _ _ | exact U32_subD _ _ _ | exact U32_mulL _ _) (by first | assumption | exact U32_0 | exact U32_1 | exact U32_addS _ _ _ | exact U32_subD _ _ _ | exact U32_mulL _ _) (by first | assumption | omega) _).mono ?_); rintro e w1 ⟨rfl, hb⟩; replace HB := bt HB hb; clear hb)))
    go_ret
    exact ⟨rfl, HB⟩

end Go.Proofs.Ytejdolfgejlckaa
