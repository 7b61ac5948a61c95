/- The walk of the law FnPowersAdd: out of the contracts of what it calls, it returns true; nothing that was in memory changes. -/
import Derived.Test.YtejdolfgejlckaaPower
namespace Go.Proofs.Ytejdolfgejlckaa
open Go.RowKit
set_option linter.unusedVariables false
theorem pow_add_law (X a b M : Nat) : tmN (powM X a M) (powM X b M) M = powM X (a + b) M := by
  unfold tmN powM
  rw [← Nat.mul_mod, ← Nat.pow_add]
theorem pow_mul_law (X a b M : Nat) : powM (powM X a M) b M = powM X (a * b) M := by
  unfold powM
  rw [← Nat.pow_mod, ← Nat.pow_mul]
theorem by_one (M : Int) (hM : U64 M) : mulH64 M 1 = 0 ∧ mulL64 M 1 = M := by
  unfold U64 at hM
  unfold mulH64 mulL64
  omega
theorem beq_nat {a b : Nat} (h : a = b) : (((a : Nat) : Int) == ((b : Nat) : Int)) = true := by simp [h]
theorem one_cast : (1 : Int) = ((1 : Nat) : Int) := rfl
theorem laws_powerI (X N M : Nat) (m : Int) (hm : m = M) (hX : X < 18446744073709551616) (hN : N < 18446744073709551616) (hM : M < 18446744073709551616) (hM1 : 1 ≤ M) (w : World) :
    Calls Try.prog 30 #[.int .u64 X, .int .u64 N, .int .u64 m] w fun e w' => e = .returned (.int .u64 (powM X N M : Nat)) ∧ Below w.heap.size w w' := by
  subst hm
  exact laws_power X N M hX hN hM hM1 w
theorem laws_timesI (X N M : Nat) (m : Int) (hm : m = M) (hX : X < 18446744073709551616) (hN : N < 18446744073709551616) (hM : M < 18446744073709551616) (hM1 : 1 ≤ M) (w : World) :
    Calls Try.prog 29 #[.int .u64 X, .int .u64 N, .int .u64 m] w fun e w' => e = .returned (.int .u64 (tmN X N M : Nat)) ∧ Below w.heap.size w w' := by
  subst hm
  exact laws_timesN X N M hX hN hM hM1 w
set_option maxRecDepth 100000 in
set_option maxHeartbeats 4000000 in
theorem powers_core (X a b M ab mm : Nat) (m : Int) (hX : X < 18446744073709551616) (ha : a < 4294967296) (hb : b < 4294967296) (hM : M < 18446744073709551616) (hM1 : 1 ≤ M) (w : World)
    (hm : (m = M) ∨ (m = 0 ∧ M = 1)) (hab : (a : Int) + b = ab) (hmm : (a : Int) * b = mm) (hab' : ab = a + b) (hmm' : mm = a * b) (hml : mm < 18446744073709551616) :
    Calls Try.prog 13 #[.int .u64 X, .int .u32 a, .int .u32 b, .int .u64 m] w fun e w' => e = .returned (.bool true) ∧ Below w.heap.size w w' := by
  have p1 := beq_nat (pow_add_law X a b M)
  have p2 := beq_nat (pow_mul_law X a b M)
  rw [← hab'] at p1
  rw [← hmm'] at p2
  have uM : U64 M := by unfold U64; omega
  have o1 := beq_of (by_one M uM).1
  have o2 := beq_of (by_one M uM).2
  have l1 : powM X a M < 18446744073709551616 := Nat.lt_trans (powM_lt _ _ _ (by omega)) hM
  have l2 : powM X b M < 18446744073709551616 := Nat.lt_trans (powM_lt _ _ _ (by omega)) hM
  have l3 : ab < 18446744073709551616 := by omega
  have l4 : a < 18446744073709551616 := by omega
  have l5 : b < 18446744073709551616 := by omega
  clear hab' hmm'
  have HB := Below.refl w.heap.size w
  rcases hm with rfl | ⟨rfl, rfl⟩
  · go_enter Try.func13, Try.ntmps13
    go_wp2_with (first | (go_at_call 24; ((with_reducible refine (impl_Mul64 _ _ uM U64_1 _).mono ?_); rintro e w1 ⟨rfl, rfl⟩)) | (go_at_call 30; ((with_reducible refine (laws_powerI _ _ M _ rfl (by assumption) (by assumption) hM hM1 _).mono ?_); rintro e w1 ⟨rfl, hb1⟩; replace HB := bt HB hb1; clear hb1)) | (go_at_call 29; ((with_reducible refine (laws_timesI _ _ M _ rfl (by assumption) (by assumption) hM hM1 _).mono ?_); rintro e w1 ⟨rfl, hb1⟩; replace HB := bt HB hb1; clear hb1)))
    go_ret
    exact ⟨rfl, HB⟩
  · have o1' : (mulH64 1 1 == 0) = true := o1
    have o2' : (mulL64 1 1 == 1) = true := o2
    clear o1 o2
    go_enter Try.func13, Try.ntmps13
    go_wp2_with (first | (go_at_call 24; ((with_reducible refine (impl_Mul64 _ _ U64_1 U64_1 _).mono ?_); rintro e w1 ⟨rfl, rfl⟩)) | (go_at_call 30; ((with_reducible refine (laws_powerI _ _ 1 _ one_cast (by assumption) (by assumption) hM hM1 _).mono ?_); rintro e w1 ⟨rfl, hb1⟩; replace HB := bt HB hb1; clear hb1)) | (go_at_call 29; ((with_reducible refine (laws_timesI _ _ 1 _ one_cast (by assumption) (by assumption) hM hM1 _).mono ?_); rintro e w1 ⟨rfl, hb1⟩; replace HB := bt HB hb1; clear hb1)))
    go_ret
    exact ⟨rfl, HB⟩
theorem walk_FnPowersAdd (x j k m : Int) (hx : U64 x) (hj : U32 j) (hk : U32 k) (hm : U64 m) (w : World) :
    Calls Try.prog 13 #[.int .u64 x, .int .u32 j, .int .u32 k, .int .u64 m] w fun e w' => e = .returned (.bool true) ∧ Below w.heap.size w w' := by
  unfold U64 at hx hm
  unfold U32 at hj hk
  obtain ⟨X, rfl⟩ := Int.eq_ofNat_of_zero_le hx.1
  obtain ⟨a, rfl⟩ := Int.eq_ofNat_of_zero_le hj.1
  obtain ⟨b, rfl⟩ := Int.eq_ofNat_of_zero_le hk.1
  obtain ⟨M, rfl⟩ := Int.eq_ofNat_of_zero_le hm.1
  have hp : a * b ≤ 18446744065119617025 := by
    have := Nat.mul_le_mul (show a ≤ 4294967295 by omega) (show b ≤ 4294967295 by omega)
    omega
  by_cases h0 : M = 0
  · exact powers_core X a b 1 (a + b) (a * b) M (by omega) (by omega) (by omega) (by omega) (by omega) w (.inr ⟨by omega, rfl⟩) (by omega) (Int.natCast_mul a b).symm rfl rfl (by omega)
  · exact powers_core X a b M (a + b) (a * b) M (by omega) (by omega) (by omega) (by omega) (by omega) w (.inl rfl) (by omega) (Int.natCast_mul a b).symm rfl rfl (by omega)
end Go.Proofs.Ytejdolfgejlckaa
