/- The walk of the law FnDivided32: out of the contracts of what it calls, it returns true; nothing that was in memory changes. -/
import Derived.Test.YtejdolfgejlckaaWalkDiv
import Derived.Test.YtejdolfgejlckaaLaw
namespace Go.Proofs.Ytejdolfgejlckaa
open Go.RowKit
set_option linter.unusedVariables false
set_option maxRecDepth 100000 in
set_option maxHeartbeats 4000000 in
theorem walk_FnDivided32 (hi : Int) (lo : Int) (y : Int) (hhi : U32 hi) (hlo : U32 lo) (hy : U32 y) (w : World) :
    Calls Try.prog 8 #[.int .u32 hi, .int .u32 lo, .int .u32 y] w fun e w' => e = .returned (.bool true) ∧ Below w.heap.size w w' := by
  by_cases h0 : y = 0
  · subst h0
    have u1 := U32_1
    have hm := mod_in32 hhi u1 (by omega)
    have H := divided32 (hi := hi % 1) (y := 1) (hm.1) hlo (u1) (by omega) (hm.2)
    have uQ := U32_divQ (hi := hi % 1) (y := 1) (hm.1) hlo (by omega) (hm.2)
    have uR := U32_divR (hi := hi % 1) (lo := lo) (y := 1) (u1) (by omega)
    have uM := U32_mulH uQ (u1)
    have bC := B1_addC32 (U32_mulL (divQ32 (hi % 1) lo (1)) (1)) uR B1_0
    have eR := divR_zero32 hi (1)
    have eM := beq_of (divR_mod32 hi lo (1)).symm
    have hrl := (div_spec32 (hi % 1) lo (1) (by omega)).2.2
    have hs1 := beq_of H.1
    have hs2 := beq_of H.2.1
    have hs3 := beq_of H.2.2
    have uH := hhi
    clear H
    have e1 : hi % 1 = 0 := Int.emod_one hi
    rw [e1] at hs1 hs2 hs3 eM hrl uQ uR uM bC eR
    clear e1 hm
    have HB := Below.refl w.heap.size w
    go_enter Try.func8, Try.ntmps8
    go_wp2_with (first | (go_at_call 21; ((with_reducible refine (impl_Rem32 _ _ _ (by first | assumption | exact U32_0 | exact U32_1 | exact U32_addS _ _ _ | exact U32_subD _ _ _ | exact U32_mulL _ _) (by first | assumption | exact U32_0 | exact U32_1 | exact U32_addS _ _ _ | exact U32_subD _ _ _ | exact U32_mulL _ _) (by first | assumption | exact U32_0 | exact U32_1 | exact U32_addS _ _ _ | exact U32_subD _ _ _ | exact U32_mulL _ _) (by first | assumption | omega) _).mono ?_); rintro e w1 ⟨rfl, hb⟩; replace HB := bt HB hb; clear hb)) | (go_at_call 15; ((with_reducible refine (impl_Mul32 _ _ (by first | assumption | exact U32_0 | exact U32_1 | exact U32_addS _ _ _ | exact U32_subD _ _ _ | exact U32_mulL _ _) (by first | assumption | exact U32_0 | exact U32_1 | exact U32_addS _ _ _ | exact U32_subD _ _ _ | exact U32_mulL _ _) _).mono ?_); rintro e w1 ⟨rfl, rfl⟩)) | (go_at_call 16; ((with_reducible refine (impl_Add32 _ _ _ (by first | assumption | exact U32_0 | exact U32_1 | exact U32_addS _ _ _ | exact U32_subD _ _ _ | exact U32_mulL _ _) (by first | assumption | exact U32_0 | exact U32_1 | exact U32_addS _ _ _ | exact U32_subD _ _ _ | exact U32_mulL _ _) (by first | assumption | exact B1_0 | exact B1_1) _).mono ?_); rintro e w1 ⟨rfl, rfl⟩)) | (go_at_call 14; ((with_reducible refine (impl_Div32 _ _ _ (by first | assumption | exact U32_0 | exact U32_1 | exact U32_addS _ _ _ | exact U32_subD _ _ _ | exact U32_mulL _ _) (by first | assumption | exact U32_0 | exact U32_1 | exact U32_addS _ _ _ | exact U32_subD _ _ _ | exact U32_mulL _ _) (by first | assumption | exact U32_0 | exact U32_1 | exact U32_addS _ _ _ | exact U32_subD _ _ _ | exact U32_mulL _ _) (by first | assumption | omega) _).mono ?_); rintro e w1 ⟨rfl, hb⟩; replace HB := bt HB hb; clear hb)))
    go_ret
    exact ⟨rfl, HB⟩
  · have hy1 : 1 ≤ y := by unfold U32 at hy; omega
    have hm := mod_in32 hhi hy hy1
    have hmA := hm.1
    have hmB := hm.2
    have H := divided32 (hi := hi % y) (y := y) (hm.1) hlo (hy) (hy1) (hm.2)
    have uQ := U32_divQ (hi := hi % y) (y := y) (hm.1) hlo (hy1) (hm.2)
    have uR := U32_divR (hi := hi % y) (lo := lo) (y := y) (hy) (hy1)
    have uM := U32_mulH uQ (hy)
    have bC := B1_addC32 (U32_mulL (divQ32 (hi % y) lo (y)) (y)) uR B1_0
    have eR := divR_zero32 hi (y)
    have eM := beq_of (divR_mod32 hi lo (y)).symm
    have hrl := (div_spec32 (hi % y) lo (y) (hy1)).2.2
    have hs1 := beq_of H.1
    have hs2 := beq_of H.2.1
    have hs3 := beq_of H.2.2
    have uH := hhi
    clear H
    have HB := Below.refl w.heap.size w
    go_enter Try.func8, Try.ntmps8
    go_wp2_with (first | (go_at_call 21; ((with_reducible refine (impl_Rem32 _ _ _ (by first | assumption | exact U32_0 | exact U32_1 | exact U32_addS _ _ _ | exact U32_subD _ _ _ | exact U32_mulL _ _) (by first | assumption | exact U32_0 | exact U32_1 | exact U32_addS _ _ _ | exact U32_subD _ _ _ | exact U32_mulL _ _) (by first | assumption | exact U32_0 | exact U32_1 | exact U32_addS _ _ _ | exact U32_subD _ _ _ | exact U32_mulL _ _) (by first | assumption | omega) _).mono ?_); rintro e w1 ⟨rfl, hb⟩; replace HB := bt HB hb; clear hb)) | (go_at_call 15; ((with_reducible refine (impl_Mul32 _ _ (by first | assumption | exact U32_0 | exact U32_1 | exact U32_addS _ _ _ | exact U32_subD _ _ _ | exact U32_mulL _ _) (by first | assumption | exact U32_0 | exact U32_1 | exact U32_addS _ _ _ | exact U32_subD _ _ _ | exact U32_mulL _ _) _).mono ?_); rintro e w1 ⟨rfl, rfl⟩)) | (go_at_call 16; ((with_reducible refine (impl_Add32 _ _ _ (by first | assumption | exact U32_0 | exact U32_1 | exact U32_addS _ _ _ | exact U32_subD _ _ _ | exact U32_mulL _ _) (by first | assumption | exact U32_0 | exact U32_1 | exact U32_addS _ _ _ | exact U32_subD _ _ _ | exact U32_mulL _ _) (by first | assumption | exact B1_0 | exact B1_1) _).mono ?_); rintro e w1 ⟨rfl, rfl⟩)) | (go_at_call 14; ((with_reducible refine (impl_Div32 _ _ _ (by first | assumption | exact U32_0 | exact U32_1 | exact U32_addS _ _ _ | exact U32_subD _ _ _ | exact U32_mulL _ _) (by first | assumption | exact U32_0 | exact U32_1 | exact U32_addS _ _ _ | exact U32_subD _ _ _ | exact U32_mulL _ _) (by first | assumption | exact U32_0 | exact U32_1 | exact U32_addS _ _ _ | exact U32_subD _ _ _ | exact U32_mulL _ _) (by first | assumption | omega) _).mono ?_); rintro e w1 ⟨rfl, hb⟩; replace HB := bt HB hb; clear hb)))
    go_ret
    exact ⟨rfl, HB⟩

end Go.Proofs.Ytejdolfgejlckaa
