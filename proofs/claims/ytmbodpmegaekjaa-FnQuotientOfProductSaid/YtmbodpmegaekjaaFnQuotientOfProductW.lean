/- The walk of the law FnQuotientOfProduct: out of the contracts of what it calls, it returns true; nothing that was in memory changes. -/
import Derived.Test.YtmbodpmegaekjaaWalkDiv
import Derived.Test.YtmbodpmegaekjaaLaw
namespace Go.Proofs.Ytmbodpmegaekjaa
open Go.RowKit
set_option linter.unusedVariables false
set_option maxRecDepth 100000 in
set_option maxHeartbeats 4000000 in
theorem walk_FnQuotientOfProduct (x : Int) (y : Int) (more : Int) (hx : U64 x) (hy : U64 y) (hmore : U64 more) (w : World) :
    Calls Try.prog 4 #[.int .u64 x, .int .u64 y, .int .u64 more] w fun e w' => e = .returned (.bool true) ∧ Below w.heap.size w w' := by
  by_cases h0 : y = 0
  · subst h0
    have uMore := U64_0
    have u1 := U64_1
    have H := qop64 hx (u1) (y := 1) (more := 0) (by omega) (by omega) (by omega)
    have uM := U64_mulH (x := x) (y := 1) hx (u1)
    have bC := B1_addC64 (U64_mulL x (1)) (uMore) B1_0
    have hs1 := beq_of H.1
    have hs2 := H.2.1
    have hs3 := beq_of H.2.2.1
    have hs4 := beq_of H.2.2.2
    clear H
    have HB := Below.refl w.heap.size w
    go_enter Try.func4, Try.ntmps4
    go_wp2_with (first | (go_at_call 19; ((with_reducible refine (impl_Mul _ _ (by first | assumption | exact U64_0 | exact U64_1 | exact U64_addS _ _ _ | exact U64_subD _ _ _ | exact U64_mulL _ _) (by first | assumption | exact U64_0 | exact U64_1 | exact U64_addS _ _ _ | exact U64_subD _ _ _ | exact U64_mulL _ _) _).mono ?_); rintro e w1 ⟨rfl, rfl⟩)) | (go_at_call 20; ((with_reducible refine (impl_Add _ _ _ (by first | assumption | exact U64_0 | exact U64_1 | exact U64_addS _ _ _ | exact U64_subD _ _ _ | exact U64_mulL _ _) (by first | assumption | exact U64_0 | exact U64_1 | exact U64_addS _ _ _ | exact U64_subD _ _ _ | exact U64_mulL _ _) (by first | assumption | exact B1_0 | exact B1_1) _).mono ?_); rintro e w1 ⟨rfl, rfl⟩)) | (go_at_call 21; ((with_reducible refine (impl_Div _ _ _ (by first | assumption | exact U64_0 | exact U64_1 | exact U64_addS _ _ _ | exact U64_subD _ _ _ | exact U64_mulL _ _) (by first | assumption | exact U64_0 | exact U64_1 | exact U64_addS _ _ _ | exact U64_subD _ _ _ | exact U64_mulL _ _) (by first | assumption | exact U64_0 | exact U64_1 | exact U64_addS _ _ _ | exact U64_subD _ _ _ | exact U64_mulL _ _) (by first | assumption | omega) _).mono ?_); rintro e w1 ⟨rfl, hb⟩; replace HB := bt HB hb; clear hb)))
    go_ret
    exact ⟨rfl, HB⟩
  · have hy1 : 1 ≤ y := by unfold U64 at hy; omega
    have hy2 := hy
    have hm := mod_in64 hmore hy hy1
    have uMore := hm.1
    have hm0 : 0 ≤ more % y := uMore.1
    have hm1 := hm.2
    have hn0 : 0 ≤ more := hmore.1
    clear hm
    have H := qop64 hx (hy) (y := y) (more := more % y) (hy1) (hm0) (hm1)
    have uM := U64_mulH (x := x) (y := y) hx (hy)
    have bC := B1_addC64 (U64_mulL x (y)) (uMore) B1_0
    have hs1 := beq_of H.1
    have hs2 := H.2.1
    have hs3 := beq_of H.2.2.1
    have hs4 := beq_of H.2.2.2
    clear H
    have HB := Below.refl w.heap.size w
    go_enter Try.func4, Try.ntmps4
    go_wp2_with (first | (go_at_call 19; ((with_reducible refine (impl_Mul _ _ (by first | assumption | exact U64_0 | exact U64_1 | exact U64_addS _ _ _ | exact U64_subD _ _ _ | exact U64_mulL _ _) (by first | assumption | exact U64_0 | exact U64_1 | exact U64_addS _ _ _ | exact U64_subD _ _ _ | exact U64_mulL _ _) _).mono ?_); rintro e w1 ⟨rfl, rfl⟩)) | (go_at_call 20; ((with_reducible refine (impl_Add _ _ _ (by first | assumption | exact U64_0 | exact U64_1 | exact U64_addS _ _ _ | exact U64_subD _ _ _ | exact U64_mulL _ _) (by first | assumption | exact U64_0 | exact U64_1 | exact U64_addS _ _ _ | exact U64_subD _ _ _ | exact U64_mulL _ _) (by first | assumption | exact B1_0 | exact B1_1) _).mono ?_); rintro e w1 ⟨rfl, rfl⟩)) | (go_at_call 21; ((with_reducible refine (impl_Div _ _ _ (by first | assumption | exact U64_0 | exact U64_1 | exact U64_addS _ _ _ | exact U64_subD _ _ _ | exact U64_mulL _ _) (by first | assumption | exact U64_0 | exact U64_1 | exact U64_addS _ _ _ | exact U64_subD _ _ _ | exact U64_mulL _ _) (by first | assumption | exact U64_0 | exact U64_1 | exact U64_addS _ _ _ | exact U64_subD _ _ _ | exact U64_mulL _ _) (by first | assumption | omega) _).mono ?_); rintro e w1 ⟨rfl, hb⟩; replace HB := bt HB hb; clear hb)))
    go_ret
    exact ⟨rfl, HB⟩

end Go.Proofs.Ytmbodpmegaekjaa
