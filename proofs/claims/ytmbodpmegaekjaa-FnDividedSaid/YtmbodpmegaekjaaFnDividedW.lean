/- The walk of the law FnDivided: out of the contracts of what it calls, it returns true; nothing that was in memory changes. -/
import Derived.Test.YtmbodpmegaekjaaWalkDiv
import Derived.Test.YtmbodpmegaekjaaLaw
namespace Go.Proofs.Ytmbodpmegaekjaa
open Go.RowKit
set_option linter.unusedVariables false
set_option maxRecDepth 100000 in
set_option maxHeartbeats 4000000 in
theorem walk_FnDivided (hi : Int) (lo : Int) (y : Int) (hhi : U64 hi) (hlo : U64 lo) (hy : U64 y) (w : World) :
    Calls Try.prog 5 #[.int .u64 hi, .int .u64 lo, .int .u64 y] w fun e w' => e = .returned (.bool true) ∧ Below w.heap.size w w' := by
  by_cases h0 : y = 0
  · subst h0
    have u1 := U64_1
    have hm := mod_in64 hhi u1 (by omega)
    have H := divided64 (hi := hi % 1) (y := 1) (hm.1) hlo (u1) (by omega) (hm.2)
    have uQ := U64_divQ (hi := hi % 1) (y := 1) (hm.1) hlo (by omega) (hm.2)
    have uR := U64_divR (hi := hi % 1) (lo := lo) (y := 1) (u1) (by omega)
    have uM := U64_mulH uQ (u1)
    have bC := B1_addC64 (U64_mulL (divQ64 (hi % 1) lo (1)) (1)) uR B1_0
    have eR := divR_zero64 hi (1)
    have eM := beq_of (divR_mod64 hi lo (1)).symm
    have hrl := (div_spec64 (hi % 1) lo (1) (by omega)).2.2
    have hs1 := beq_of H.1
    have hs2 := beq_of H.2.1
    have hs3 := beq_of H.2.2
    have uH := hhi
    clear H
    have e1 : hi % 1 = 0 := Int.emod_one hi
    rw [e1] at hs1 hs2 hs3 eM hrl uQ uR uM bC eR
    clear e1 hm
    have HB := Below.refl w.heap.size w
    go_enter Try.func5, Try.ntmps5
    go_wp2_with (first | (go_at_call 22; ((with_reducible refine (impl_Rem _ _ _ (by first | assumption | exact U64_0 | exact U64_1 | exact U64_addS _ _ _ | exact U64_subD _ _ _ | exact U64_mulL _ _) (by first | assumption | exact U64_0 | exact U64_1 | exact U64_addS _ _ _ | exact U64_subD _ _ _ | exact U64_mulL _ _) (by first | assumption | exact U64_0 | exact U64_1 | exact U64_addS _ _ _ | exact U64_subD _ _ _ | exact U64_mulL _ _) (by first | assumption | omega) _).mono ?_); rintro e w1 ⟨rfl, hb⟩; replace HB := bt HB hb; clear hb)) | (go_at_call 19; ((with_reducible refine (impl_Mul _ _ (by first | assumption | exact U64_0 | exact U64_1 | exact U64_addS _ _ _ | exact U64_subD _ _ _ | exact U64_mulL _ _) (by first | assumption | exact U64_0 | exact U64_1 | exact U64_addS _ _ _ | exact U64_subD _ _ _ | exact U64_mulL _ _) _).mono ?_); rintro e w1 ⟨rfl, rfl⟩)) | (go_at_call 20; ((with_reducible refine (impl_Add _ _ _ (by first | assumption | exact U64_0 | exact U64_1 | exact U64_addS _ _ _ | exact U64_subD _ _ _ | exact U64_mulL _ _) (by first | assumption | exact U64_0 | exact U64_1 | exact U64_addS _ _ _ | exact U64_subD _ _ _ | exact U64_mulL _ _) (by first | assumption | exact B1_0 | exact B1_1) _).mono ?_); rintro e w1 ⟨rfl, rfl⟩)) | (go_at_call 21; ((with_reducible refine (impl_Div _ _ _ (by first | assumption | exact U64_0 | exact U64_1 | exact U64_addS _ _ _ | exact U64_subD _ _ _ | exact U64_mulL _ _) (by first | assumption | exact U64_0 | exact U64_1 | exact U64_addS _ _ _ | exact U64_subD _ _ _ | exact U64_mulL _ _) (by first | assumption | exact U64_0 | exact U64_1 | exact U64_addS _ _ _ | exact U64_subD _ _ _ | exact U64_mulL _ _) (by first | assumption | omega) _).mono ?_); rintro e w1 ⟨rfl, hb⟩; replace HB := bt HB hb; clear hb)))
    go_ret
    exact ⟨rfl, HB⟩
  · have hy1 : 1 ≤ y := by unfold U64 at hy; omega
    have hm := mod_in64 hhi hy hy1
    have hmA := hm.1
    have hmB := hm.2
    have H := divided64 (hi := hi % y) (y := y) (hm.1) hlo (hy) (hy1) (hm.2)
    have uQ := U64_divQ (hi := hi % y) (y := y) (hm.1) hlo (hy1) (hm.2)
    have uR := U64_divR (hi := hi % y) (lo := lo) (y := y) (hy) (hy1)
    have uM := U64_mulH uQ (hy)
    have bC := B1_addC64 (U64_mulL (divQ64 (hi % y) lo (y)) (y)) uR B1_0
    have eR := divR_zero64 hi (y)
    have eM := beq_of (divR_mod64 hi lo (y)).symm
    have hrl := (div_spec64 (hi % y) lo (y) (hy1)).2.2
    have hs1 := beq_of H.1
    have hs2 := beq_of H.2.1
    have hs3 := beq_of H.2.2
    have uH := hhi
    clear H
    have HB := Below.refl w.heap.size w
    go_enter Try.func5, Try.ntmps5
    go_wp2_with (first | (go_at_call 22; ((with_reducible refine (impl_Rem _ _ _ (by first | assumption | exact U64_0 | exact U64_1 | exact U64_addS _ _ _ | exact U64_subD _ _ _ | exact U64_mulL _ _) (by first | assumption | exact U64_0 | exact U64_1 | exact U64_addS _ _ _ | exact U64_subD _ _ _ | exact U64_mulL _ _) (by first | assumption | exact U64_0 | exact U64_1 | exact U64_addS _ _ _ | exact U64_subD _ _ _ | exact U64_mulL _ _) (by first | assumption | omega) _).mono ?_); rintro e w1 ⟨rfl, hb⟩; replace HB := bt HB hb; clear hb)) | (go_at_call 19; ((with_reducible refine (impl_Mul _ _ (by first | assumption | exact U64_0 | exact U64_1 | exact U64_addS _ _ _ | exact U64_subD _ _ _ | exact U64_mulL _ _) (by first | assumption | exact U64_0 | exact U64_1 | exact U64_addS _ _ _ | exact U64_subD _ _ _ | exact U64_mulL _ _) _).mono ?_); rintro e w1 ⟨rfl, rfl⟩)) | (go_at_call 20; ((with_reducible refine (impl_Add _ _ _ (by first | assumption | exact U64_0 | exact U64_1 | exact U64_addS _ _ _ | exact U64_subD _ _ _ | exact U64_mulL _ _) (by first | assumption | exact U64_0 | exact U64_1 | exact U64_addS _ _ _ | exact U64_subD _ _ _ | exact U64_mulL _ _) (by first | assumption | exact B1_0 | exact B1_1) _).mono ?_); rintro e w1 ⟨rfl, rfl⟩)) | (go_at_call 21; ((with_reducible refine (impl_Div _ _ _ (by first | assumption | exact U64_0 | exact U64_1 | exact U64_addS _ _ _ | exact U64_subD _ _ _ | exact U64_mulL _ _) (by first | assumption | exact U64_0 | exact U64_1 | exact U64_addS _ _ _ | exact U64_subD _ _ _ | exact U64_mulL _ _) (by first | assumption | exact U64_0 | exact U64_1 | exact U64_addS _ _ _ | exact U64_subD _ _ _ | exact U64_mulL _ _) (by first | assumption | omega) _).mono ?_); rintro e w1 ⟨rfl, hb⟩; replace HB := bt HB hb; clear hb)))
    go_ret
    exact ⟨rfl, HB⟩

end Go.Proofs.Ytmbodpmegaekjaa
