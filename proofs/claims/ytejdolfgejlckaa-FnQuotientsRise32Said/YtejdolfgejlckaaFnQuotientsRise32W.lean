/- The walk of the law FnQuotientsRise32: out of the contracts of what it calls, it returns true; nothing that was in memory changes. -/
import Derived.Test.YtejdolfgejlckaaWalkDiv
import Derived.Test.YtejdolfgejlckaaLaw
namespace Go.Proofs.Ytejdolfgejlckaa
open Go.RowKit
set_option linter.unusedVariables false
set_option maxRecDepth 100000 in
set_option maxHeartbeats 4000000 in
theorem rise_FnQuotientsRise32_ax (hi lo top low y z : Int) (hhi : U32 hi) (hlo : U32 lo) (htop : U32 top) (hlow : U32 low) (hy : U32 y) (hz : U32 z) (w : World) (hY : y = 0) (hZ : z = 0) (hl : low < lo) :
    Calls Try.prog 3 #[.int .u32 hi, .int .u32 lo, .int .u32 top, .int .u32 low, .int .u32 y, .int .u32 z] w fun e w' => e = .returned (.bool true) ∧ Below w.heap.size w w' := by
  subst hY
  subst hZ
  have u1 := U32_1
  have hY1 : (1 : Int) ≤ 1 := by omega
  have q1 := rise32 (hi := 0) (lo := low) (top := 0) (low := lo) (y := 1) hY1 hlow hlo (by omega)
  have q2 := fall32 (top := 0) (low := lo) (y := 1) (z := 1) U32_0 hlo hY1 (by omega)
  have q3 := beq_of (once32 hY1).1
  have q4 := beq_of (once32 hY1).2
  go_enter Try.func3, Try.ntmps3
  go_wp2_with fail
  go_region
  have HB := (Below.refl w.heap.size w).drew
  go_wp2_with ((go_at_call 14; ((with_reducible refine (impl_Div32 _ _ _ (by first | assumption | exact U32_0 | exact U32_1 | exact U32_addS _ _ _ | exact U32_subD _ _ _ | exact U32_mulL _ _) (by first | assumption | exact U32_0 | exact U32_1 | exact U32_addS _ _ _ | exact U32_subD _ _ _ | exact U32_mulL _ _) (by first | assumption | exact U32_0 | exact U32_1 | exact U32_addS _ _ _ | exact U32_subD _ _ _ | exact U32_mulL _ _) (by first | assumption | omega) _).mono ?_); rintro e w1 ⟨rfl, hb⟩; replace HB := bt HB hb; clear hb)))
  go_ret
  exact ⟨rfl, HB⟩
set_option maxRecDepth 100000 in
set_option maxHeartbeats 4000000 in
theorem rise_FnQuotientsRise32_an (hi lo top low y z : Int) (hhi : U32 hi) (hlo : U32 lo) (htop : U32 top) (hlow : U32 low) (hy : U32 y) (hz : U32 z) (w : World) (hY : y = 0) (hZ : z = 0) (hl : lo ≤ low) :
    Calls Try.prog 3 #[.int .u32 hi, .int .u32 lo, .int .u32 top, .int .u32 low, .int .u32 y, .int .u32 z] w fun e w' => e = .returned (.bool true) ∧ Below w.heap.size w w' := by
  subst hY
  subst hZ
  have u1 := U32_1
  have hY1 : (1 : Int) ≤ 1 := by omega
  have q1 := rise32 (hi := 0) (lo := lo) (top := 0) (low := low) (y := 1) hY1 hlo hlow (by omega)
  have q2 := fall32 (top := 0) (low := low) (y := 1) (z := 1) U32_0 hlow hY1 (by omega)
  have q3 := beq_of (once32 hY1).1
  have q4 := beq_of (once32 hY1).2
  go_enter Try.func3, Try.ntmps3
  go_wp2_with fail
  go_region
  have HB := (Below.refl w.heap.size w).drew
  go_wp2_with ((go_at_call 14; ((with_reducible refine (impl_Div32 _ _ _ (by first | assumption | exact U32_0 | exact U32_1 | exact U32_addS _ _ _ | exact U32_subD _ _ _ | exact U32_mulL _ _) (by first | assumption | exact U32_0 | exact U32_1 | exact U32_addS _ _ _ | exact U32_subD _ _ _ | exact U32_mulL _ _) (by first | assumption | exact U32_0 | exact U32_1 | exact U32_addS _ _ _ | exact U32_subD _ _ _ | exact U32_mulL _ _) (by first | assumption | omega) _).mono ?_); rintro e w1 ⟨rfl, hb⟩; replace HB := bt HB hb; clear hb)))
  go_ret
  exact ⟨rfl, HB⟩
set_option maxRecDepth 100000 in
set_option maxHeartbeats 4000000 in
theorem rise_FnQuotientsRise32_bx (hi lo top low y z : Int) (hhi : U32 hi) (hlo : U32 lo) (htop : U32 top) (hlow : U32 low) (hy : U32 y) (hz : U32 z) (w : World) (hY : y = 0) (hZ : 1 ≤ z) (hl : low < lo) :
    Calls Try.prog 3 #[.int .u32 hi, .int .u32 lo, .int .u32 top, .int .u32 low, .int .u32 y, .int .u32 z] w fun e w' => e = .returned (.bool true) ∧ Below w.heap.size w w' := by
  subst hY
  have u1 := U32_1
  have hY1 : (1 : Int) ≤ 1 := by omega
  have q1 := rise32 (hi := 0) (lo := low) (top := 0) (low := lo) (y := 1) hY1 hlow hlo (by omega)
  have q2 := fall32 (top := 0) (low := lo) (y := 1) (z := z) U32_0 hlo hY1 (by omega)
  have q3 := beq_of (once32 hY1).1
  have q4 := beq_of (once32 hY1).2
  go_enter Try.func3, Try.ntmps3
  go_wp2_with fail
  go_region
  have HB := (Below.refl w.heap.size w).drew
  go_wp2_with ((go_at_call 14; ((with_reducible refine (impl_Div32 _ _ _ (by first | assumption | exact U32_0 | exact U32_1 | exact U32_addS _ _ _ | exact U32_subD _ _ _ | exact U32_mulL _ _) (by first | assumption | exact U32_0 | exact U32_1 | exact U32_addS _ _ _ | exact U32_subD _ _ _ | exact U32_mulL _ _) (by first | assumption | exact U32_0 | exact U32_1 | exact U32_addS _ _ _ | exact U32_subD _ _ _ | exact U32_mulL _ _) (by first | assumption | omega) _).mono ?_); rintro e w1 ⟨rfl, hb⟩; replace HB := bt HB hb; clear hb)))
  go_ret
  exact ⟨rfl, HB⟩
set_option maxRecDepth 100000 in
set_option maxHeartbeats 4000000 in
theorem rise_FnQuotientsRise32_bn (hi lo top low y z : Int) (hhi : U32 hi) (hlo : U32 lo) (htop : U32 top) (hlow : U32 low) (hy : U32 y) (hz : U32 z) (w : World) (hY : y = 0) (hZ : 1 ≤ z) (hl : lo ≤ low) :
    Calls Try.prog 3 #[.int .u32 hi, .int .u32 lo, .int .u32 top, .int .u32 low, .int .u32 y, .int .u32 z] w fun e w' => e = .returned (.bool true) ∧ Below w.heap.size w w' := by
  subst hY
  have u1 := U32_1
  have hY1 : (1 : Int) ≤ 1 := by omega
  have q1 := rise32 (hi := 0) (lo := lo) (top := 0) (low := low) (y := 1) hY1 hlo hlow (by omega)
  have q2 := fall32 (top := 0) (low := low) (y := 1) (z := z) U32_0 hlow hY1 (by omega)
  have q3 := beq_of (once32 hY1).1
  have q4 := beq_of (once32 hY1).2
  go_enter Try.func3, Try.ntmps3
  go_wp2_with fail
  go_region
  have HB := (Below.refl w.heap.size w).drew
  go_wp2_with ((go_at_call 14; ((with_reducible refine (impl_Div32 _ _ _ (by first | assumption | exact U32_0 | exact U32_1 | exact U32_addS _ _ _ | exact U32_subD _ _ _ | exact U32_mulL _ _) (by first | assumption | exact U32_0 | exact U32_1 | exact U32_addS _ _ _ | exact U32_subD _ _ _ | exact U32_mulL _ _) (by first | assumption | exact U32_0 | exact U32_1 | exact U32_addS _ _ _ | exact U32_subD _ _ _ | exact U32_mulL _ _) (by first | assumption | omega) _).mono ?_); rintro e w1 ⟨rfl, hb⟩; replace HB := bt HB hb; clear hb)))
  go_ret
  exact ⟨rfl, HB⟩
set_option maxRecDepth 100000 in
set_option maxHeartbeats 4000000 in
theorem rise_FnQuotientsRise32_cg (hi lo top low y z : Int) (hhi : U32 hi) (hlo : U32 lo) (htop : U32 top) (hlow : U32 low) (hy : U32 y) (hz : U32 z) (w : World) (hY : 1 ≤ y) (hZ : y < z) (hg : top % y < hi % y) :
    Calls Try.prog 3 #[.int .u32 hi, .int .u32 lo, .int .u32 top, .int .u32 low, .int .u32 y, .int .u32 z] w fun e w' => e = .returned (.bool true) ∧ Below w.heap.size w w' := by
  have u1 := U32_1
  have hY1 : (1 : Int) ≤ y := by omega
  have hnz : ¬ y = 0 := by omega
  have m1 := mod_in32 hhi hy hY1
  have m2 := mod_in32 htop hy hY1
  have m1a := m1.1
  have m1b := m1.2
  have m2a := m2.1
  have m2b := m2.2
  clear m1 m2
  have nhi : 0 ≤ hi := hhi.1
  have ntop : 0 ≤ top := htop.1
  have q1 := rise32 (hi := top % y) (lo := low) (top := hi % y) (low := lo) (y := y) hY1 hlow hlo (by omega)
  have q2 := fall32 (top := hi % y) (low := lo) (y := y) (z := z) m1a hlo hY1 (by omega)
  have q3 := beq_of (once32 hY1).1
  have q4 := beq_of (once32 hY1).2
  go_enter Try.func3, Try.ntmps3
  go_wp2_with fail
  go_region
  have HB := (Below.refl w.heap.size w).drew
  go_wp2_with ((go_at_call 14; ((with_reducible refine (impl_Div32 _ _ _ (by first | assumption | exact U32_0 | exact U32_1 | exact U32_addS _ _ _ | exact U32_subD _ _ _ | exact U32_mulL _ _) (by first | assumption | exact U32_0 | exact U32_1 | exact U32_addS _ _ _ | exact U32_subD _ _ _ | exact U32_mulL _ _) (by first | assumption | exact U32_0 | exact U32_1 | exact U32_addS _ _ _ | exact U32_subD _ _ _ | exact U32_mulL _ _) (by first | assumption | omega) _).mono ?_); rintro e w1 ⟨rfl, hb⟩; replace HB := bt HB hb; clear hb)))
  go_ret
  exact ⟨rfl, HB⟩
set_option maxRecDepth 100000 in
set_option maxHeartbeats 4000000 in
theorem rise_FnQuotientsRise32_cx (hi lo top low y z : Int) (hhi : U32 hi) (hlo : U32 lo) (htop : U32 top) (hlow : U32 low) (hy : U32 y) (hz : U32 z) (w : World) (hY : 1 ≤ y) (hZ : y < z) (hg : hi % y = top % y) (hl : low < lo) :
    Calls Try.prog 3 #[.int .u32 hi, .int .u32 lo, .int .u32 top, .int .u32 low, .int .u32 y, .int .u32 z] w fun e w' => e = .returned (.bool true) ∧ Below w.heap.size w w' := by
  have u1 := U32_1
  have hY1 : (1 : Int) ≤ y := by omega
  have hnz : ¬ y = 0 := by omega
  have m1 := mod_in32 hhi hy hY1
  have m2 := mod_in32 htop hy hY1
  have m1a := m1.1
  have m1b := m1.2
  have m2a := m2.1
  have m2b := m2.2
  clear m1 m2
  have nhi : 0 ≤ hi := hhi.1
  have ntop : 0 ≤ top := htop.1
  have q1 := rise32 (hi := top % y) (lo := low) (top := top % y) (low := lo) (y := y) hY1 hlow hlo (by omega)
  have q2 := fall32 (top := top % y) (low := lo) (y := y) (z := z) m2a hlo hY1 (by omega)
  have q3 := beq_of (once32 hY1).1
  have q4 := beq_of (once32 hY1).2
  have hgt : (hi % y == top % y) = true := beq_of hg
  have hge : ¬ top % y < hi % y := by omega
  go_enter Try.func3, Try.ntmps3
  go_wp2_with fail
  go_region
  have HB := (Below.refl w.heap.size w).drew
  go_wp2_with ((go_at_call 14; ((with_reducible refine (impl_Div32 _ _ _ (by first | assumption | exact U32_0 | exact U32_1 | exact U32_addS _ _ _ | exact U32_subD _ _ _ | exact U32_mulL _ _) (by first | assumption | exact U32_0 | exact U32_1 | exact U32_addS _ _ _ | exact U32_subD _ _ _ | exact U32_mulL _ _) (by first | assumption | exact U32_0 | exact U32_1 | exact U32_addS _ _ _ | exact U32_subD _ _ _ | exact U32_mulL _ _) (by first | assumption | omega) _).mono ?_); rintro e w1 ⟨rfl, hb⟩; replace HB := bt HB hb; clear hb)))
  go_ret
  exact ⟨rfl, HB⟩
set_option maxRecDepth 100000 in
set_option maxHeartbeats 4000000 in
theorem rise_FnQuotientsRise32_cn (hi lo top low y z : Int) (hhi : U32 hi) (hlo : U32 lo) (htop : U32 top) (hlow : U32 low) (hy : U32 y) (hz : U32 z) (w : World) (hY : 1 ≤ y) (hZ : y < z) (hg : hi % y = top % y) (hl : lo ≤ low) :
    Calls Try.prog 3 #[.int .u32 hi, .int .u32 lo, .int .u32 top, .int .u32 low, .int .u32 y, .int .u32 z] w fun e w' => e = .returned (.bool true) ∧ Below w.heap.size w w' := by
  have u1 := U32_1
  have hY1 : (1 : Int) ≤ y := by omega
  have hnz : ¬ y = 0 := by omega
  have m1 := mod_in32 hhi hy hY1
  have m2 := mod_in32 htop hy hY1
  have m1a := m1.1
  have m1b := m1.2
  have m2a := m2.1
  have m2b := m2.2
  clear m1 m2
  have nhi : 0 ≤ hi := hhi.1
  have ntop : 0 ≤ top := htop.1
  have q1 := rise32 (hi := top % y) (lo := lo) (top := top % y) (low := low) (y := y) hY1 hlo hlow (by omega)
  have q2 := fall32 (top := top % y) (low := low) (y := y) (z := z) m2a hlow hY1 (by omega)
  have q3 := beq_of (once32 hY1).1
  have q4 := beq_of (once32 hY1).2
  have hgt : (hi % y == top % y) = true := beq_of hg
  have hge : ¬ top % y < hi % y := by omega
  go_enter Try.func3, Try.ntmps3
  go_wp2_with fail
  go_region
  have HB := (Below.refl w.heap.size w).drew
  go_wp2_with ((go_at_call 14; ((with_reducible refine (impl_Div32 _ _ _ (by first | assumption | exact U32_0 | exact U32_1 | exact U32_addS _ _ _ | exact U32_subD _ _ _ | exact U32_mulL _ _) (by first | assumption | exact U32_0 | exact U32_1 | exact U32_addS _ _ _ | exact U32_subD _ _ _ | exact U32_mulL _ _) (by first | assumption | exact U32_0 | exact U32_1 | exact U32_addS _ _ _ | exact U32_subD _ _ _ | exact U32_mulL _ _) (by first | assumption | omega) _).mono ?_); rintro e w1 ⟨rfl, hb⟩; replace HB := bt HB hb; clear hb)))
  go_ret
  exact ⟨rfl, HB⟩
set_option maxRecDepth 100000 in
set_option maxHeartbeats 4000000 in
theorem rise_FnQuotientsRise32_cl (hi lo top low y z : Int) (hhi : U32 hi) (hlo : U32 lo) (htop : U32 top) (hlow : U32 low) (hy : U32 y) (hz : U32 z) (w : World) (hY : 1 ≤ y) (hZ : y < z) (hg : hi % y < top % y) :
    Calls Try.prog 3 #[.int .u32 hi, .int .u32 lo, .int .u32 top, .int .u32 low, .int .u32 y, .int .u32 z] w fun e w' => e = .returned (.bool true) ∧ Below w.heap.size w w' := by
  have u1 := U32_1
  have hY1 : (1 : Int) ≤ y := by omega
  have hnz : ¬ y = 0 := by omega
  have m1 := mod_in32 hhi hy hY1
  have m2 := mod_in32 htop hy hY1
  have m1a := m1.1
  have m1b := m1.2
  have m2a := m2.1
  have m2b := m2.2
  clear m1 m2
  have nhi : 0 ≤ hi := hhi.1
  have ntop : 0 ≤ top := htop.1
  have q1 := rise32 (hi := hi % y) (lo := lo) (top := top % y) (low := low) (y := y) hY1 hlo hlow (by omega)
  have q2 := fall32 (top := top % y) (low := low) (y := y) (z := z) m2a hlow hY1 (by omega)
  have q3 := beq_of (once32 hY1).1
  have q4 := beq_of (once32 hY1).2
  go_enter Try.func3, Try.ntmps3
  go_wp2_with fail
  go_region
  have HB := (Below.refl w.heap.size w).drew
  go_wp2_with ((go_at_call 14; ((with_reducible refine (impl_Div32 _ _ _ (by first | assumption | exact U32_0 | exact U32_1 | exact U32_addS _ _ _ | exact U32_subD _ _ _ | exact U32_mulL _ _) (by first | assumption | exact U32_0 | exact U32_1 | exact U32_addS _ _ _ | exact U32_subD _ _ _ | exact U32_mulL _ _) (by first | assumption | exact U32_0 | exact U32_1 | exact U32_addS _ _ _ | exact U32_subD _ _ _ | exact U32_mulL _ _) (by first | assumption | omega) _).mono ?_); rintro e w1 ⟨rfl, hb⟩; replace HB := bt HB hb; clear hb)))
  go_ret
  exact ⟨rfl, HB⟩
set_option maxRecDepth 100000 in
set_option maxHeartbeats 4000000 in
theorem rise_FnQuotientsRise32_fg (hi lo top low y z : Int) (hhi : U32 hi) (hlo : U32 lo) (htop : U32 top) (hlow : U32 low) (hy : U32 y) (hz : U32 z) (w : World) (hY : 1 ≤ y) (hZ : y = z) (hg : top % y < hi % y) :
    Calls Try.prog 3 #[.int .u32 hi, .int .u32 lo, .int .u32 top, .int .u32 low, .int .u32 y, .int .u32 z] w fun e w' => e = .returned (.bool true) ∧ Below w.heap.size w w' := by
  subst hZ
  have u1 := U32_1
  have hY1 : (1 : Int) ≤ y := by omega
  have hnz : ¬ y = 0 := by omega
  have m1 := mod_in32 hhi hy hY1
  have m2 := mod_in32 htop hy hY1
  have m1a := m1.1
  have m1b := m1.2
  have m2a := m2.1
  have m2b := m2.2
  clear m1 m2
  have nhi : 0 ≤ hi := hhi.1
  have ntop : 0 ≤ top := htop.1
  have q1 := rise32 (hi := top % y) (lo := low) (top := hi % y) (low := lo) (y := y) hY1 hlow hlo (by omega)
  have q2 := fall32 (top := hi % y) (low := lo) (y := y) (z := y) m1a hlo hY1 (by omega)
  have q3 := beq_of (once32 hY1).1
  have q4 := beq_of (once32 hY1).2
  go_enter Try.func3, Try.ntmps3
  go_wp2_with fail
  go_region
  have HB := (Below.refl w.heap.size w).drew
  go_wp2_with ((go_at_call 14; ((with_reducible refine (impl_Div32 _ _ _ (by first | assumption | exact U32_0 | exact U32_1 | exact U32_addS _ _ _ | exact U32_subD _ _ _ | exact U32_mulL _ _) (by first | assumption | exact U32_0 | exact U32_1 | exact U32_addS _ _ _ | exact U32_subD _ _ _ | exact U32_mulL _ _) (by first | assumption | exact U32_0 | exact U32_1 | exact U32_addS _ _ _ | exact U32_subD _ _ _ | exact U32_mulL _ _) (by first | assumption | omega) _).mono ?_); rintro e w1 ⟨rfl, hb⟩; replace HB := bt HB hb; clear hb)))
  go_ret
  exact ⟨rfl, HB⟩
set_option maxRecDepth 100000 in
set_option maxHeartbeats 4000000 in
theorem rise_FnQuotientsRise32_fx (hi lo top low y z : Int) (hhi : U32 hi) (hlo : U32 lo) (htop : U32 top) (hlow : U32 low) (hy : U32 y) (hz : U32 z) (w : World) (hY : 1 ≤ y) (hZ : y = z) (hg : hi % y = top % y) (hl : low < lo) :
    Calls Try.prog 3 #[.int .u32 hi, .int .u32 lo, .int .u32 top, .int .u32 low, .int .u32 y, .int .u32 z] w fun e w' => e = .returned (.bool true) ∧ Below w.heap.size w w' := by
  subst hZ
  have u1 := U32_1
  have hY1 : (1 : Int) ≤ y := by omega
  have hnz : ¬ y = 0 := by omega
  have m1 := mod_in32 hhi hy hY1
  have m2 := mod_in32 htop hy hY1
  have m1a := m1.1
  have m1b := m1.2
  have m2a := m2.1
  have m2b := m2.2
  clear m1 m2
  have nhi : 0 ≤ hi := hhi.1
  have ntop : 0 ≤ top := htop.1
  have q1 := rise32 (hi := top % y) (lo := low) (top := top % y) (low := lo) (y := y) hY1 hlow hlo (by omega)
  have q2 := fall32 (top := top % y) (low := lo) (y := y) (z := y) m2a hlo hY1 (by omega)
  have q3 := beq_of (once32 hY1).1
  have q4 := beq_of (once32 hY1).2
  have hgt : (hi % y == top % y) = true := beq_of hg
  have hge : ¬ top % y < hi % y := by omega
  go_enter Try.func3, Try.ntmps3
  go_wp2_with fail
  go_region
  have HB := (Below.refl w.heap.size w).drew
  go_wp2_with ((go_at_call 14; ((with_reducible refine (impl_Div32 _ _ _ (by first | assumption | exact U32_0 | exact U32_1 | exact U32_addS _ _ _ | exact U32_subD _ _ _ | exact U32_mulL _ _) (by first | assumption | exact U32_0 | exact U32_1 | exact U32_addS _ _ _ | exact U32_subD _ _ _ | exact U32_mulL _ _) (by first | assumption | exact U32_0 | exact U32_1 | exact U32_addS _ _ _ | exact U32_subD _ _ _ | exact U32_mulL _ _) (by first | assumption | omega) _).mono ?_); rintro e w1 ⟨rfl, hb⟩; replace HB := bt HB hb; clear hb)))
  go_ret
  exact ⟨rfl, HB⟩
set_option maxRecDepth 100000 in
set_option maxHeartbeats 4000000 in
theorem rise_FnQuotientsRise32_fn (hi lo top low y z : Int) (hhi : U32 hi) (hlo : U32 lo) (htop : U32 top) (hlow : U32 low) (hy : U32 y) (hz : U32 z) (w : World) (hY : 1 ≤ y) (hZ : y = z) (hg : hi % y = top % y) (hl : lo ≤ low) :
    Calls Try.prog 3 #[.int .u32 hi, .int .u32 lo, .int .u32 top, .int .u32 low, .int .u32 y, .int .u32 z] w fun e w' => e = .returned (.bool true) ∧ Below w.heap.size w w' := by
  subst hZ
  have u1 := U32_1
  have hY1 : (1 : Int) ≤ y := by omega
  have hnz : ¬ y = 0 := by omega
  have m1 := mod_in32 hhi hy hY1
  have m2 := mod_in32 htop hy hY1
  have m1a := m1.1
  have m1b := m1.2
  have m2a := m2.1
  have m2b := m2.2
  clear m1 m2
  have nhi : 0 ≤ hi := hhi.1
  have ntop : 0 ≤ top := htop.1
  have q1 := rise32 (hi := top % y) (lo := lo) (top := top % y) (low := low) (y := y) hY1 hlo hlow (by omega)
  have q2 := fall32 (top := top % y) (low := low) (y := y) (z := y) m2a hlow hY1 (by omega)
  have q3 := beq_of (once32 hY1).1
  have q4 := beq_of (once32 hY1).2
  have hgt : (hi % y == top % y) = true := beq_of hg
  have hge : ¬ top % y < hi % y := by omega
  go_enter Try.func3, Try.ntmps3
  go_wp2_with fail
  go_region
  have HB := (Below.refl w.heap.size w).drew
  go_wp2_with ((go_at_call 14; ((with_reducible refine (impl_Div32 _ _ _ (by first | assumption | exact U32_0 | exact U32_1 | exact U32_addS _ _ _ | exact U32_subD _ _ _ | exact U32_mulL _ _) (by first | assumption | exact U32_0 | exact U32_1 | exact U32_addS _ _ _ | exact U32_subD _ _ _ | exact U32_mulL _ _) (by first | assumption | exact U32_0 | exact U32_1 | exact U32_addS _ _ _ | exact U32_subD _ _ _ | exact U32_mulL _ _) (by first | assumption | omega) _).mono ?_); rintro e w1 ⟨rfl, hb⟩; replace HB := bt HB hb; clear hb)))
  go_ret
  exact ⟨rfl, HB⟩
set_option maxRecDepth 100000 in
set_option maxHeartbeats 4000000 in
theorem rise_FnQuotientsRise32_fl (hi lo top low y z : Int) (hhi : U32 hi) (hlo : U32 lo) (htop : U32 top) (hlow : U32 low) (hy : U32 y) (hz : U32 z) (w : World) (hY : 1 ≤ y) (hZ : y = z) (hg : hi % y < top % y) :
    Calls Try.prog 3 #[.int .u32 hi, .int .u32 lo, .int .u32 top, .int .u32 low, .int .u32 y, .int .u32 z] w fun e w' => e = .returned (.bool true) ∧ Below w.heap.size w w' := by
  subst hZ
  have u1 := U32_1
  have hY1 : (1 : Int) ≤ y := by omega
  have hnz : ¬ y = 0 := by omega
  have m1 := mod_in32 hhi hy hY1
  have m2 := mod_in32 htop hy hY1
  have m1a := m1.1
  have m1b := m1.2
  have m2a := m2.1
  have m2b := m2.2
  clear m1 m2
  have nhi : 0 ≤ hi := hhi.1
  have ntop : 0 ≤ top := htop.1
  have q1 := rise32 (hi := hi % y) (lo := lo) (top := top % y) (low := low) (y := y) hY1 hlo hlow (by omega)
  have q2 := fall32 (top := top % y) (low := low) (y := y) (z := y) m2a hlow hY1 (by omega)
  have q3 := beq_of (once32 hY1).1
  have q4 := beq_of (once32 hY1).2
  go_enter Try.func3, Try.ntmps3
  go_wp2_with fail
  go_region
  have HB := (Below.refl w.heap.size w).drew
  go_wp2_with ((go_at_call 14; ((with_reducible refine (impl_Div32 _ _ _ (by first | assumption | exact U32_0 | exact U32_1 | exact U32_addS _ _ _ | exact U32_subD _ _ _ | exact U32_mulL _ _) (by first | assumption | exact U32_0 | exact U32_1 | exact U32_addS _ _ _ | exact U32_subD _ _ _ | exact U32_mulL _ _) (by first | assumption | exact U32_0 | exact U32_1 | exact U32_addS _ _ _ | exact U32_subD _ _ _ | exact U32_mulL _ _) (by first | assumption | omega) _).mono ?_); rintro e w1 ⟨rfl, hb⟩; replace HB := bt HB hb; clear hb)))
  go_ret
  exact ⟨rfl, HB⟩
set_option maxRecDepth 100000 in
set_option maxHeartbeats 4000000 in
theorem rise_FnQuotientsRise32_dx (hi lo top low y z : Int) (hhi : U32 hi) (hlo : U32 lo) (htop : U32 top) (hlow : U32 low) (hy : U32 y) (hz : U32 z) (w : World) (hY : z = 0) (hZ : 1 ≤ y) (hl : low < lo) :
    Calls Try.prog 3 #[.int .u32 hi, .int .u32 lo, .int .u32 top, .int .u32 low, .int .u32 y, .int .u32 z] w fun e w' => e = .returned (.bool true) ∧ Below w.heap.size w w' := by
  subst hY
  have u1 := U32_1
  have hY1 : (1 : Int) ≤ 1 := by omega
  have q1 := rise32 (hi := 0) (lo := low) (top := 0) (low := lo) (y := 1) hY1 hlow hlo (by omega)
  have q2 := fall32 (top := 0) (low := lo) (y := 1) (z := y) U32_0 hlo hY1 (by omega)
  have q3 := beq_of (once32 hY1).1
  have q4 := beq_of (once32 hY1).2
  go_enter Try.func3, Try.ntmps3
  go_wp2_with fail
  go_region
  have HB := (Below.refl w.heap.size w).drew
  go_wp2_with ((go_at_call 14; ((with_reducible refine (impl_Div32 _ _ _ (by first | assumption | exact U32_0 | exact U32_1 | exact U32_addS _ _ _ | exact U32_subD _ _ _ | exact U32_mulL _ _) (by first | assumption | exact U32_0 | exact U32_1 | exact U32_addS _ _ _ | exact U32_subD _ _ _ | exact U32_mulL _ _) (by first | assumption | exact U32_0 | exact U32_1 | exact U32_addS _ _ _ | exact U32_subD _ _ _ | exact U32_mulL _ _) (by first | assumption | omega) _).mono ?_); rintro e w1 ⟨rfl, hb⟩; replace HB := bt HB hb; clear hb)))
  go_ret
  exact ⟨rfl, HB⟩
set_option maxRecDepth 100000 in
set_option maxHeartbeats 4000000 in
theorem rise_FnQuotientsRise32_dn (hi lo top low y z : Int) (hhi : U32 hi) (hlo : U32 lo) (htop : U32 top) (hlow : U32 low) (hy : U32 y) (hz : U32 z) (w : World) (hY : z = 0) (hZ : 1 ≤ y) (hl : lo ≤ low) :
    Calls Try.prog 3 #[.int .u32 hi, .int .u32 lo, .int .u32 top, .int .u32 low, .int .u32 y, .int .u32 z] w fun e w' => e = .returned (.bool true) ∧ Below w.heap.size w w' := by
  subst hY
  have u1 := U32_1
  have hY1 : (1 : Int) ≤ 1 := by omega
  have q1 := rise32 (hi := 0) (lo := lo) (top := 0) (low := low) (y := 1) hY1 hlo hlow (by omega)
  have q2 := fall32 (top := 0) (low := low) (y := 1) (z := y) U32_0 hlow hY1 (by omega)
  have q3 := beq_of (once32 hY1).1
  have q4 := beq_of (once32 hY1).2
  go_enter Try.func3, Try.ntmps3
  go_wp2_with fail
  go_region
  have HB := (Below.refl w.heap.size w).drew
  go_wp2_with ((go_at_call 14; ((with_reducible refine (impl_Div32 _ _ _ (by first | assumption | exact U32_0 | exact U32_1 | exact U32_addS _ _ _ | exact U32_subD _ _ _ | exact U32_mulL _ _) (by first | assumption | exact U32_0 | exact U32_1 | exact U32_addS _ _ _ | exact U32_subD _ _ _ | exact U32_mulL _ _) (by first | assumption | exact U32_0 | exact U32_1 | exact U32_addS _ _ _ | exact U32_subD _ _ _ | exact U32_mulL _ _) (by first | assumption | omega) _).mono ?_); rintro e w1 ⟨rfl, hb⟩; replace HB := bt HB hb; clear hb)))
  go_ret
  exact ⟨rfl, HB⟩
set_option maxRecDepth 100000 in
set_option maxHeartbeats 4000000 in
theorem rise_FnQuotientsRise32_eg (hi lo top low y z : Int) (hhi : U32 hi) (hlo : U32 lo) (htop : U32 top) (hlow : U32 low) (hy : U32 y) (hz : U32 z) (w : World) (hY : 1 ≤ z) (hZ : z < y) (hg : top % z < hi % z) :
    Calls Try.prog 3 #[.int .u32 hi, .int .u32 lo, .int .u32 top, .int .u32 low, .int .u32 y, .int .u32 z] w fun e w' => e = .returned (.bool true) ∧ Below w.heap.size w w' := by
  have u1 := U32_1
  have hY1 : (1 : Int) ≤ z := by omega
  have hnz : ¬ z = 0 := by omega
  have m1 := mod_in32 hhi hz hY1
  have m2 := mod_in32 htop hz hY1
  have m1a := m1.1
  have m1b := m1.2
  have m2a := m2.1
  have m2b := m2.2
  clear m1 m2
  have nhi : 0 ≤ hi := hhi.1
  have ntop : 0 ≤ top := htop.1
  have q1 := rise32 (hi := top % z) (lo := low) (top := hi % z) (low := lo) (y := z) hY1 hlow hlo (by omega)
  have q2 := fall32 (top := hi % z) (low := lo) (y := z) (z := y) m1a hlo hY1 (by omega)
  have q3 := beq_of (once32 hY1).1
  have q4 := beq_of (once32 hY1).2
  go_enter Try.func3, Try.ntmps3
  go_wp2_with fail
  go_region
  have HB := (Below.refl w.heap.size w).drew
  go_wp2_with ((go_at_call 14; ((with_reducible refine (impl_Div32 _ _ _ (by first | assumption | exact U32_0 | exact U32_1 | exact U32_addS _ _ _ | exact U32_subD _ _ _ | exact U32_mulL _ _) (by first | assumption | exact U32_0 | exact U32_1 | exact U32_addS _ _ _ | exact U32_subD _ _ _ | exact U32_mulL _ _) (by first | assumption | exact U32_0 | exact U32_1 | exact U32_addS _ _ _ | exact U32_subD _ _ _ | exact U32_mulL _ _) (by first | assumption | omega) _).mono ?_); rintro e w1 ⟨rfl, hb⟩; replace HB := bt HB hb; clear hb)))
  go_ret
  exact ⟨rfl, HB⟩
set_option maxRecDepth 100000 in
set_option maxHeartbeats 4000000 in
theorem rise_FnQuotientsRise32_ex (hi lo top low y z : Int) (hhi : U32 hi) (hlo : U32 lo) (htop : U32 top) (hlow : U32 low) (hy : U32 y) (hz : U32 z) (w : World) (hY : 1 ≤ z) (hZ : z < y) (hg : hi % z = top % z) (hl : low < lo) :
    Calls Try.prog 3 #[.int .u32 hi, .int .u32 lo, .int .u32 top, .int .u32 low, .int .u32 y, .int .u32 z] w fun e w' => e = .returned (.bool true) ∧ Below w.heap.size w w' := by
  have u1 := U32_1
  have hY1 : (1 : Int) ≤ z := by omega
  have hnz : ¬ z = 0 := by omega
  have m1 := mod_in32 hhi hz hY1
  have m2 := mod_in32 htop hz hY1
  have m1a := m1.1
  have m1b := m1.2
  have m2a := m2.1
  have m2b := m2.2
  clear m1 m2
  have nhi : 0 ≤ hi := hhi.1
  have ntop : 0 ≤ top := htop.1
  have q1 := rise32 (hi := top % z) (lo := low) (top := top % z) (low := lo) (y := z) hY1 hlow hlo (by omega)
  have q2 := fall32 (top := top % z) (low := lo) (y := z) (z := y) m2a hlo hY1 (by omega)
  have q3 := beq_of (once32 hY1).1
  have q4 := beq_of (once32 hY1).2
  have hgt : (hi % z == top % z) = true := beq_of hg
  have hge : ¬ top % z < hi % z := by omega
  go_enter Try.func3, Try.ntmps3
  go_wp2_with fail
  go_region
  have HB := (Below.refl w.heap.size w).drew
  go_wp2_with ((go_at_call 14; ((with_reducible refine (impl_Div32 _ _ _ (by first | assumption | exact U32_0 | exact U32_1 | exact U32_addS _ _ _ | exact U32_subD _ _ _ | exact U32_mulL _ _) (by first | assumption | exact U32_0 | exact U32_1 | exact U32_addS _ _ _ | exact U32_subD _ _ _ | exact U32_mulL _ _) (by first | assumption | exact U32_0 | exact U32_1 | exact U32_addS _ _ _ | exact U32_subD _ _ _ | exact U32_mulL _ _) (by first | assumption | omega) _).mono ?_); rintro e w1 ⟨rfl, hb⟩; replace HB := bt HB hb; clear hb)))
  go_ret
  exact ⟨rfl, HB⟩
set_option maxRecDepth 100000 in
set_option maxHeartbeats 4000000 in
theorem rise_FnQuotientsRise32_en (hi lo top low y z : Int) (hhi : U32 hi) (hlo : U32 lo) (htop : U32 top) (hlow : U32 low) (hy : U32 y) (hz : U32 z) (w : World) (hY : 1 ≤ z) (hZ : z < y) (hg : hi % z = top % z) (hl : lo ≤ low) :
    Calls Try.prog 3 #[.int .u32 hi, .int .u32 lo, .int .u32 top, .int .u32 low, .int .u32 y, .int .u32 z] w fun e w' => e = .returned (.bool true) ∧ Below w.heap.size w w' := by
  have u1 := U32_1
  have hY1 : (1 : Int) ≤ z := by omega
  have hnz : ¬ z = 0 := by omega
  have m1 := mod_in32 hhi hz hY1
  have m2 := mod_in32 htop hz hY1
  have m1a := m1.1
  have m1b := m1.2
  have m2a := m2.1
  have m2b := m2.2
  clear m1 m2
  have nhi : 0 ≤ hi := hhi.1
  have ntop : 0 ≤ top := htop.1
  have q1 := rise32 (hi := top % z) (lo := lo) (top := top % z) (low := low) (y := z) hY1 hlo hlow (by omega)
  have q2 := fall32 (top := top % z) (low := low) (y := z) (z := y) m2a hlow hY1 (by omega)
  have q3 := beq_of (once32 hY1).1
  have q4 := beq_of (once32 hY1).2
  have hgt : (hi % z == top % z) = true := beq_of hg
  have hge : ¬ top % z < hi % z := by omega
  go_enter Try.func3, Try.ntmps3
  go_wp2_with fail
  go_region
  have HB := (Below.refl w.heap.size w).drew
  go_wp2_with ((go_at_call 14; ((with_reducible refine (impl_Div32 _ _ _ (by first | assumption | exact U32_0 | exact U32_1 | exact U32_addS _ _ _ | exact U32_subD _ _ _ | exact U32_mulL _ _) (by first | assumption | exact U32_0 | exact U32_1 | exact U32_addS _ _ _ | exact U32_subD _ _ _ | exact U32_mulL _ _) (by first | assumption | exact U32_0 | exact U32_1 | exact U32_addS _ _ _ | exact U32_subD _ _ _ | exact U32_mulL _ _) (by first | assumption | omega) _).mono ?_); rintro e w1 ⟨rfl, hb⟩; replace HB := bt HB hb; clear hb)))
  go_ret
  exact ⟨rfl, HB⟩
set_option maxRecDepth 100000 in
set_option maxHeartbeats 4000000 in
theorem rise_FnQuotientsRise32_el (hi lo top low y z : Int) (hhi : U32 hi) (hlo : U32 lo) (htop : U32 top) (hlow : U32 low) (hy : U32 y) (hz : U32 z) (w : World) (hY : 1 ≤ z) (hZ : z < y) (hg : hi % z < top % z) :
    Calls Try.prog 3 #[.int .u32 hi, .int .u32 lo, .int .u32 top, .int .u32 low, .int .u32 y, .int .u32 z] w fun e w' => e = .returned (.bool true) ∧ Below w.heap.size w w' := by
  have u1 := U32_1
  have hY1 : (1 : Int) ≤ z := by omega
  have hnz : ¬ z = 0 := by omega
  have m1 := mod_in32 hhi hz hY1
  have m2 := mod_in32 htop hz hY1
  have m1a := m1.1
  have m1b := m1.2
  have m2a := m2.1
  have m2b := m2.2
  clear m1 m2
  have nhi : 0 ≤ hi := hhi.1
  have ntop : 0 ≤ top := htop.1
  have q1 := rise32 (hi := hi % z) (lo := lo) (top := top % z) (low := low) (y := z) hY1 hlo hlow (by omega)
  have q2 := fall32 (top := top % z) (low := low) (y := z) (z := y) m2a hlow hY1 (by omega)
  have q3 := beq_of (once32 hY1).1
  have q4 := beq_of (once32 hY1).2
  go_enter Try.func3, Try.ntmps3
  go_wp2_with fail
  go_region
  have HB := (Below.refl w.heap.size w).drew
  go_wp2_with ((go_at_call 14; ((with_reducible refine (impl_Div32 _ _ _ (by first | assumption | exact U32_0 | exact U32_1 | exact U32_addS _ _ _ | exact U32_subD _ _ _ | exact U32_mulL _ _) (by first | assumption | exact U32_0 | exact U32_1 | exact U32_addS _ _ _ | exact U32_subD _ _ _ | exact U32_mulL _ _) (by first | assumption | exact U32_0 | exact U32_1 | exact U32_addS _ _ _ | exact U32_subD _ _ _ | exact U32_mulL _ _) (by first | assumption | omega) _).mono ?_); rintro e w1 ⟨rfl, hb⟩; replace HB := bt HB hb; clear hb)))
  go_ret
  exact ⟨rfl, HB⟩
theorem walk_FnQuotientsRise32 (hi lo top low y z : Int) (hhi : U32 hi) (hlo : U32 lo) (htop : U32 top) (hlow : U32 low) (hy : U32 y) (hz : U32 z) (w : World) :
    Calls Try.prog 3 #[.int .u32 hi, .int .u32 lo, .int .u32 top, .int .u32 low, .int .u32 y, .int .u32 z] w fun e w' => e = .returned (.bool true) ∧ Below w.heap.size w w' := by
  have ny : 0 ≤ y := hy.1
  have nz : 0 ≤ z := hz.1
  by_cases h1 : z < y
  · by_cases h2 : z = 0
    · by_cases hl : low < lo
      · exact rise_FnQuotientsRise32_dx hi lo top low y z hhi hlo htop hlow hy hz w h2 (by omega) hl
      · exact rise_FnQuotientsRise32_dn hi lo top low y z hhi hlo htop hlow hy hz w h2 (by omega) (by omega)
    · rcases Int.lt_trichotomy (top % z) (hi % z) with hg | hg | hg
      · exact rise_FnQuotientsRise32_eg hi lo top low y z hhi hlo htop hlow hy hz w (by omega) h1 hg
      · by_cases hl : low < lo
        · exact rise_FnQuotientsRise32_ex hi lo top low y z hhi hlo htop hlow hy hz w (by omega) h1 hg.symm hl
        · exact rise_FnQuotientsRise32_en hi lo top low y z hhi hlo htop hlow hy hz w (by omega) h1 hg.symm (by omega)
      · exact rise_FnQuotientsRise32_el hi lo top low y z hhi hlo htop hlow hy hz w (by omega) h1 hg
  · by_cases h2 : y = 0
    · by_cases h3 : z = 0
      · by_cases hl : low < lo
        · exact rise_FnQuotientsRise32_ax hi lo top low y z hhi hlo htop hlow hy hz w h2 h3 hl
        · exact rise_FnQuotientsRise32_an hi lo top low y z hhi hlo htop hlow hy hz w h2 h3 (by omega)
      · by_cases hl : low < lo
        · exact rise_FnQuotientsRise32_bx hi lo top low y z hhi hlo htop hlow hy hz w h2 (by omega) hl
        · exact rise_FnQuotientsRise32_bn hi lo top low y z hhi hlo htop hlow hy hz w h2 (by omega) (by omega)
    · by_cases h3 : z = y
      · rcases Int.lt_trichotomy (top % y) (hi % y) with hg | hg | hg
        · exact rise_FnQuotientsRise32_fg hi lo top low y z hhi hlo htop hlow hy hz w (by omega) h3.symm hg
        · by_cases hl : low < lo
          · exact rise_FnQuotientsRise32_fx hi lo top low y z hhi hlo htop hlow hy hz w (by omega) h3.symm hg.symm hl
          · exact rise_FnQuotientsRise32_fn hi lo top low y z hhi hlo htop hlow hy hz w (by omega) h3.symm hg.symm (by omega)
        · exact rise_FnQuotientsRise32_fl hi lo top low y z hhi hlo htop hlow hy hz w (by omega) h3.symm hg
      · rcases Int.lt_trichotomy (top % y) (hi % y) with hg | hg | hg
        · exact rise_FnQuotientsRise32_cg hi lo top low y z hhi hlo htop hlow hy hz w (by omega) (by omega) hg
        · by_cases hl : low < lo
          · exact rise_FnQuotientsRise32_cx hi lo top low y z hhi hlo htop hlow hy hz w (by omega) (by omega) hg.symm hl
          · exact rise_FnQuotientsRise32_cn hi lo top low y z hhi hlo htop hlow hy hz w (by omega) (by omega) hg.symm (by omega)
        · exact rise_FnQuotientsRise32_cl hi lo top low y z hhi hlo htop hlow hy hz w (by omega) (by omega) hg
end Go.Proofs.Ytejdolfgejlckaa
