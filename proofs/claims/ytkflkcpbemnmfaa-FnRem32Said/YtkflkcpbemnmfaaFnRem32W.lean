/- The walk of the law FnRem32: out of the contracts of what it calls, it returns true; nothing that was in memory changes. -/
import Derived.Test.YtkflkcpbemnmfaaSpecW
import Derived.Test.YtkflkcpbemnmfaaWalkD
namespace Go.Proofs.Ytkflkcpbemnmfaa
open Go.RowKit
set_option linter.unusedVariables false
/-- The call dies of a panic with a value that is not nil. -/
def Dies (w : World) (e : Ending) (w' : World) : Prop := ∃ u pv, e = .panicked [{ v := .iface u pv, recovered := false }] ∧ w = w'
set_option maxRecDepth 100000 in
theorem bits_Rem32_zero (hi lo : Int) (hh : U32 hi) (hl : U32 lo) (w : World) : Calls Try.prog 43 #[.int .u32 hi, .int .u32 lo, .int .u32 0] w (Dies w) := by
  obtain ⟨hh0, hh1⟩ := hh
  obtain ⟨hl0, hl1⟩ := hl
  go_enter Try.func43, Try.ntmps43
  go_wp2
  exact ⟨rfl, _, _, rfl, rfl⟩
set_option maxRecDepth 100000 in
theorem impl_Rem32_zero (hi lo : Int) (hh : U32 hi) (hl : U32 lo) (w : World) :
    Calls Try.prog 17 #[.int .u32 hi, .int .u32 lo, .int .u32 0] w fun e w' => e = .returned (.tuple #[.int .u32 0, .bool true]) ∧ Below w.heap.size w w' := by
  have hmf : ∀ (fn : Fn) (first cap : Array Value) (w : World), (Instr.makeFunc fn first cap).run Try.prog w = .ok (.func fn first cap) w := fun _ _ _ _ => rfl
  go_enter_defers Try.func17, Try.ntmps17
  go_wp2_with (go_at_call 43; refine (bits_Rem32_zero hi lo hh hl _).mono ?_; rintro e w1 ⟨u, pv, rfl, rfl⟩)
  refine leaves_cons (f := 42) (args := #[.pointer (some ⟨w.heap.size, 0, none⟩)]) (by simp) (by simp [go_sem]) ?_
  refine (rem32_caught ⟨w.heap.size, 0, none⟩ false u pv [] _ ?_ ?_).mono ?_
  · simp [go_sem]
  · simp [go_sem]
  rintro e u' w'' ⟨rfl, rfl, rfl⟩
  simp [Leaves, settle, results, Try.results17, go_sem]
  exact (Below.refl _ _).alloc (Nat.le_refl _) _
set_option maxRecDepth 100000 in
set_option maxHeartbeats 4000000 in
theorem walk_FnRem32 (hi lo y : Int) (hhi : U32 hi) (hlo : U32 lo) (hy : U32 y) (w : World) :
    Calls Try.prog 4 #[.int .u32 hi, .int .u32 lo, .int .u32 y] w fun e w' => e = .returned (.bool true) ∧ Below w.heap.size w w' := by
  have hh0 := hhi.1
  have hh1 := hhi.2
  have hl0 := hlo.1
  have hl1 := hlo.2
  have hy0 := hy.1
  have hy1 := hy.2
  have HB := Below.refl w.heap.size w
  by_cases h0 : y = 0
  · subst h0
    go_enter Try.func4, Try.ntmps4
    go_wp2_with (first | (go_at_call 17; ((with_reducible refine (impl_Rem32_zero _ _ hhi hlo _).mono ?_); rintro e w1 ⟨rfl, hb⟩; replace HB := bt HB hb; clear hb)) | (go_at_call 18; (refine (spec_Remainder_zero 32 _ _ _).mono ?_; rintro e w1 ⟨rfl, rfl⟩)))
    go_ret
    exact ⟨rfl, HB⟩
  · have hy2 : 1 ≤ y := by omega
    have hr := U32_divR (hi := hi) (lo := lo) hy hy2
    have hr0 := hr.1
    have hr1 := hr.2
    clear hr
    go_enter Try.func4, Try.ntmps4
    go_wp2_with (first | (go_at_call 17; ((with_reducible refine (impl_Rem32 _ _ _ hhi hlo hy hy2 _).mono ?_); rintro e w1 ⟨rfl, hb⟩; replace HB := bt HB hb; clear hb)) | (go_at_call 18; ((with_reducible refine (remainder32 _ _ _ hhi hlo hy hy2 _).mono ?_); rintro e w1 ⟨rfl, hb⟩; replace HB := bt HB hb; clear hb)))
    go_ret
    exact ⟨rfl, HB⟩
end Go.Proofs.Ytkflkcpbemnmfaa
