/- The walk of the law FnModular: out of the contracts of what it calls, it returns true; nothing that was in memory changes. -/
import Derived.Test.YtkflkcpbemnmfaaSpecW
import Derived.Test.YtkflkcpbemnmfaaPower
namespace Go.Proofs.Ytkflkcpbemnmfaa
open Go.RowKit
set_option linter.unusedVariables false
theorem beq_natM {a b : Nat} (h : a = b) : (((a : Nat) : Int) == ((b : Nat) : Int)) = true := by simp [h]
theorem ring1 (X Y Z M : Nat) : tmN (tmN X Y M) Z M = tmN X (tmN Y Z M) M := by
  unfold tmN
  rw [Nat.mod_mul_mod, Nat.mul_mod_mod, Nat.mul_assoc]
theorem ring2 (X Y M : Nat) : tmN X Y M = tmN Y X M := by unfold tmN; rw [Nat.mul_comm]
theorem ring3 (X Y Z M : Nat) : pmN (pmN X Y M) Z M = pmN X (pmN Y Z M) M := by
  unfold pmN
  rw [Nat.mod_add_mod, Nat.add_mod_mod, Nat.add_assoc]
theorem ring4 (X Y Z M : Nat) : tmN X (pmN Y Z M) M = pmN (tmN X Y M) (tmN X Z M) M := by
  unfold tmN pmN
  rw [Nat.mul_mod_mod, Nat.mul_add, Nat.mod_add_mod, Nat.add_mod_mod]
theorem by_oneM (M : Int) (hM : U64 M) : mulH64 M 1 = 0 ∧ mulL64 M 1 = M := by
  unfold U64 at hM
  unfold mulH64 mulL64
  omega
theorem one_castM : (1 : Int) = ((1 : Nat) : Int) := rfl
theorem laws_timesJ (X N M : Nat) (m : Int) (hm : m = M) (hX : X < 18446744073709551616) (hN : N < 18446744073709551616) (hM : M < 18446744073709551616) (hM1 : 1 ≤ M) (w : World) :
    Calls Try.prog 37 #[.int .u64 X, .int .u64 N, .int .u64 m] w fun e w' => e = .returned (.int .u64 (tmN X N M : Nat)) ∧ Below w.heap.size w w' := by
  subst hm
  exact laws_timesN X N M hX hN hM hM1 w
theorem laws_plusJ (X N M : Nat) (m : Int) (hm : m = M) (hX : X < 18446744073709551616) (hN : N < 18446744073709551616) (hM : M < 18446744073709551616) (hM1 : 1 ≤ M) (w : World) :
    Calls Try.prog 39 #[.int .u64 X, .int .u64 N, .int .u64 m] w fun e w' => e = .returned (.int .u64 (pmN X N M : Nat)) ∧ Below w.heap.size w w' := by
  subst hm
  exact laws_plusN X N M hX hN hM hM1 w
theorem of64 (X : Nat) (m : Int) (hm : m = X) (hX : X < 18446744073709551616) (w : World) : Calls Try.prog 35 #[.int .u64 m, .int .i64 64] w (RetOwn w X 64) := by
  subst hm
  exact spec_Of X 64 w hX (by omega)
theorem lt64 {X : Nat} (h : X < 18446744073709551616) : X < 2 ^ 64 := h
set_option maxRecDepth 100000 in
set_option maxHeartbeats 8000000 in
theorem modular_core (X Y Z M : Nat) (m m' : Int) (hX : X < 18446744073709551616) (hY : Y < 18446744073709551616) (hZ : Z < 18446744073709551616) (hM : M < 18446744073709551616) (hM1 : 1 ≤ M) (w : World)
    (hm : (1 ≤ m ∧ m' = m) ∨ (m = 0 ∧ m' = 1)) (hmM : Hid (m' = M)) :
    Calls Try.prog 14 #[.int .u64 X, .int .u64 Y, .int .u64 Z, .int .u64 m] w fun e w' => e = .returned (.bool true) ∧ Below w.heap.size w w' := by
  have uM : U64 m' := by rw [hmM.out]; unfold U64; omega
  have uX : U64 X := by unfold U64; omega
  have uY : U64 Y := by unfold U64; omega
  have m1 : 1 ≤ m' := by rw [hmM.out]; omega
  have o1 := beq_of (by_oneM m' uM).1
  have o2 := beq_of (by_oneM m' uM).2
  have r1 := beq_natM (ring1 X Y Z M)
  have r2 := beq_natM (ring2 X Y M)
  have r3 := beq_natM (ring3 X Y Z M)
  have r4 := beq_natM (ring4 X Y Z M)
  have l1 : tmN X Y M < 18446744073709551616 := Nat.lt_trans (tmN_lt _ _ _ (by omega)) hM
  have l2 : tmN Y Z M < 18446744073709551616 := Nat.lt_trans (tmN_lt _ _ _ (by omega)) hM
  have l3 : tmN X Z M < 18446744073709551616 := Nat.lt_trans (tmN_lt _ _ _ (by omega)) hM
  have l4 : pmN X Y M < 18446744073709551616 := Nat.lt_trans (pmN_lt _ _ _ (by omega)) hM
  have l5 : pmN Y Z M < 18446744073709551616 := Nat.lt_trans (pmN_lt _ _ _ (by omega)) hM
  have hM0 : Hid (0 < M) := by unfold Hid; omega
  rcases hm with ⟨hm1, rfl⟩ | ⟨rfl, rfl⟩
  all_goals
    go_enter Try.func14, Try.ntmps14
    go_wp2_with fail
    with_reducible refine (of64 X _ rfl hX _).mono ?_
    rintro e w1 ⟨A1, c1, rfl, hc1, R1, B1⟩
    go_wp2_with fail
    with_reducible refine (of64 Y _ rfl hY _).mono ?_
    rintro e w2 ⟨A2, c2, rfl, hc2, R2, B2⟩
    go_wp2_with fail
    with_reducible refine (spec_Times A1 A2 c1 c2 X Y 64 64 w2 (R1.bits.below B2) R2.bits (lt64 hX) (lt64 hY) (by omega) (by omega)).mono ?_
    rintro e w3 ⟨A3, c3, rfl, hc3, R3, B3⟩
    go_wp2_with fail
    with_reducible refine (of64 M _ hmM.out hM _).mono ?_
    rintro e w4 ⟨A4, c4, rfl, hc4, R4, B4⟩
    go_wp2_with fail
    with_reducible refine (spec_Over A3 A4 c3 c4 (X * Y) M (64 + 64) 64 w4 (R3.bits.below B4) R4.bits (times_lt (lt64 hX) (lt64 hY)) (lt64 hM) (by omega) (by omega) hM0.out).mono ?_
    rintro e w5 ⟨A5, c5, A6, c6, rfl, hc5, R5, R6, B5⟩
    have hb5 := hide (bt (bt (bt (bt B1 B2) B3) B4) B5)
    have H6 := hide R6
    clear R1 R2 R3 R4 R5 R6 B1 B2 B3 B4 B5 hc1 hc2 hc3 hc4 hc5
    go_wp2_with fail
    with_reducible refine (of64 X _ rfl hX _).mono ?_
    rintro e w1 ⟨A1, c1, rfl, hc1, R1, B1⟩
    go_wp2_with fail
    with_reducible refine (of64 Y _ rfl hY _).mono ?_
    rintro e w2 ⟨A2, c2, rfl, hc2, R2, B2⟩
    go_wp2_with fail
    have hP := spec_Plus A1 A2 c1 c2 X Y 64 64 false w2 (R1.bits.below B2) R2.bits (lt64 hX) (lt64 hY) (by omega) (by omega)
    rw [show bitN false = 0 from rfl, Nat.add_zero, Nat.max_self] at hP
    with_reducible refine hP.mono ?_
    rintro e w3 ⟨A3, c3, rfl, hc3, R3, B3⟩
    clear hP
    go_wp2_with fail
    with_reducible refine (of64 M _ hmM.out hM _).mono ?_
    rintro e w4 ⟨A4, c4, rfl, hc4, R4, B4⟩
    go_wp2_with fail
    with_reducible refine (spec_Over A3 A4 c3 c4 (X + Y) M (64 + 1) 64 w4 (R3.bits.below B4) R4.bits (by have := lt64 hX; have := lt64 hY; rw [Nat.pow_succ]; omega) (lt64 hM) (by omega) (by omega) hM0.out).mono ?_
    rintro e w9 ⟨A7, c7, A8, c8, rfl, hc7, R7, R8, B5⟩
    have hb9 := bt (bt (bt (bt B1 B2) B3) B4) B5
    have H6' := hide (H6.out.below hb9)
    have H8 := hide R8
    have HB := bt hb5.out hb9
    have HC := Below.refl w9.heap.size w9
    clear R1 R2 R3 R4 R7 R8 B1 B2 B3 B4 B5 hc1 hc2 hc3 hc4 hc7 H6 hb5 hb9
    go_wp2_with (first | (go_at_call 37; ((with_reducible refine (laws_timesJ _ _ M _ hmM.out (by assumption) (by assumption) hM hM1 _).mono ?_); rintro e w1 ⟨rfl, hb⟩; replace HB := bt HB hb; replace HC := bt HC hb; clear hb)) | (go_at_call 39; ((with_reducible refine (laws_plusJ _ _ M _ hmM.out (by assumption) (by assumption) hM hM1 _).mono ?_); rintro e w1 ⟨rfl, hb⟩; replace HB := bt HB hb; replace HC := bt HC hb; clear hb)) | (go_at_call 38; ((with_reducible refine (spec_Value A6 c6 (tmN X Y M) _ _ (H6'.out.below HC) l1 (Nat.lt_of_lt_of_le (lt64 l1) (Nat.pow_le_pow_right (by omega) (by omega))) (by omega)).mono ?_); rintro e w1 ⟨rfl, rfl⟩)) | (go_at_call 38; ((with_reducible refine (spec_Value A8 c8 (pmN X Y M) _ _ (H8.out.below HC) l4 (Nat.lt_of_lt_of_le (lt64 l4) (Nat.pow_le_pow_right (by omega) (by omega))) (by omega)).mono ?_); rintro e w1 ⟨rfl, rfl⟩)) | (go_at_call 40; ((with_reducible refine (impl_Rem64 _ _ _ uX uY uM m1 _).mono ?_); rintro e w1 ⟨rfl, hb⟩; replace HB := bt HB hb; clear hb)) | (go_at_call 28; ((with_reducible refine (impl_Mul64 _ _ uM U64_1 _).mono ?_); rintro e w1 ⟨rfl, rfl⟩)))
    go_ret
    exact ⟨rfl, HB⟩
theorem walk_FnModular (x y z m : Int) (hx : U64 x) (hy : U64 y) (hz : U64 z) (hm : U64 m) (w : World) :
    Calls Try.prog 14 #[.int .u64 x, .int .u64 y, .int .u64 z, .int .u64 m] w fun e w' => e = .returned (.bool true) ∧ Below w.heap.size w w' := by
  unfold U64 at hx hy hz hm
  obtain ⟨X, rfl⟩ := Int.eq_ofNat_of_zero_le hx.1
  obtain ⟨Y, rfl⟩ := Int.eq_ofNat_of_zero_le hy.1
  obtain ⟨Z, rfl⟩ := Int.eq_ofNat_of_zero_le hz.1
  obtain ⟨M, rfl⟩ := Int.eq_ofNat_of_zero_le hm.1
  by_cases h0 : M = 0
  · exact modular_core X Y Z 1 M 1 (by omega) (by omega) (by omega) (by omega) (by omega) w (.inr ⟨by omega, rfl⟩) one_castM
  · exact modular_core X Y Z M M M (by omega) (by omega) (by omega) (by omega) (by omega) w (.inl ⟨by omega, rfl⟩) rfl
end Go.Proofs.Ytkflkcpbemnmfaa
