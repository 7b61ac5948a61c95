/- The walk of the law FnDividedByPowers: out of the contracts of what it calls, it returns true; nothing that was in memory changes. -/
import Derived.Test.YtejdolfgejlckaaWalkDiv
import Derived.Test.YtejdolfgejlckaaLaw
namespace Go.Proofs.Ytejdolfgejlckaa
open Go.RowKit
set_option linter.unusedVariables false
theorem pow_parts (K : Nat) (hK : K < 64) : (18446744073709551616 : Nat) = 2 ^ (64 - K) * 2 ^ K ∧ (2 : Nat) ^ (64 - K) = 2 * 2 ^ (63 - K) := by
  constructor
  · rw [← Nat.pow_add, show 64 - K + K = 64 by omega]
  · rw [show 64 - K = 63 - K + 1 by omega, Nat.pow_succ, Nat.mul_comm]
/-- Division by a power of 2, in whole numbers. -/
theorem by_power (H L K : Nat) (hK : K < 64) (hH : H < 2 ^ K) (hL : L < 18446744073709551616) :
    divQ64 H L (2 ^ K) = bits .or .u64 ((L : Int) / 2 ^ K) (IntKind.u64.wrap (IntKind.u64.wrap ((H : Int) * 2) * 2 ^ (63 - K))) ∧ divR64 H L (2 ^ K) = bits .and .u64 L (IntKind.u64.wrap (2 ^ K - 1)) := by
  obtain ⟨e64, e63⟩ := pow_parts K hK
  have hp : 0 < 2 ^ K := Nat.two_pow_pos K
  have hps : 0 < 2 ^ (64 - K) := Nat.two_pow_pos _
  have hK63 : 2 ^ K ≤ 9223372036854775808 := by
    have := Nat.pow_le_pow_right (n := 2) (by omega) (show K ≤ 63 by omega)
    simpa using this
  have hl : L / 2 ^ K < 2 ^ (64 - K) := by
    rw [Nat.div_lt_iff_lt_mul hp, ← e64]; exact hL
  have hh : H * 2 ^ (64 - K) < 18446744073709551616 := by
    rw [e64, Nat.mul_comm (2 ^ (64 - K))]
    exact Nat.mul_lt_mul_of_pos_right hH hps
  have w1 : IntKind.u64.wrap ((H : Int) * 2) = ((H * 2 : Nat) : Int) := by rw [u64wrap]; omega
  have w2 : IntKind.u64.wrap (((H * 2 : Nat) : Int) * 2 ^ (63 - K)) = ((H * 2 ^ (64 - K) : Nat) : Int) := by
    rw [two_pow_cast, ← Int.natCast_mul, u64wrap, Nat.mul_assoc, ← e63]
    omega
  have w3 : IntKind.u64.wrap ((2 : Int) ^ K - 1) = ((2 ^ K - 1 : Nat) : Int) := by
    rw [two_pow_cast, u64wrap]
    omega
  have hlt : L / 2 ^ K < 18446744073709551616 := Nat.lt_of_le_of_lt (Nat.div_le_self _ _) hL
  have ho : bits .or .u64 ((L : Int) / 2 ^ K) (((H * 2 ^ (64 - K) : Nat) : Int)) = ((H * 2 ^ (64 - K) + L / 2 ^ K : Nat) : Int) := by
    rw [two_pow_cast, ← Int.natCast_ediv, u64_or_nat _ _ hlt hh, Nat.or_comm, nat_join (64 - K) _ _ (by simp) hl]
  have ha : bits .and .u64 (L : Int) (((2 ^ K - 1 : Nat) : Int)) = ((L % 2 ^ K : Nat) : Int) := by
    rw [u64_and_nat _ _ hL (by omega), Nat.and_two_pow_sub_one_eq_mod]
  rw [w1, w2, w3, ho, ha, two_pow_cast]
  have hd := Nat.div_add_mod L (2 ^ K)
  refine div_unique64 (by omega) ?_ (Int.natCast_nonneg _) (Int.ofNat_lt.2 (Nat.mod_lt _ hp))
  rw [← Int.natCast_mul, ← Int.natCast_add]
  have e : (H * 2 ^ (64 - K) + L / 2 ^ K) * 2 ^ K + L % 2 ^ K = H * 18446744073709551616 + L := by
    rw [Nat.add_mul, Nat.mul_assoc, ← e64, Nat.mul_comm (L / 2 ^ K)]
    omega
  rw [e]
  omega
set_option maxRecDepth 100000 in
set_option maxHeartbeats 4000000 in
theorem walk_FnDividedByPowers (hi lo k : Int) (hhi : U64 hi) (hlo : U64 lo) (hk : U64 k) (w : World) :
    Calls Try.prog 12 #[.int .u64 hi, .int .u64 lo, .int .u64 k] w fun e w' => e = .returned (.bool true) ∧ Below w.heap.size w w' := by
  have hk0 : 0 ≤ k := hk.1
  have hh0 : 0 ≤ hi := hhi.1
  have hl0 : 0 ≤ lo := hlo.1
  obtain ⟨K, hK⟩ := Int.eq_ofNat_of_zero_le (Int.emod_nonneg k (show (64 : Int) ≠ 0 by omega))
  have hKl : K < 64 := by omega
  have hp := pow_in64 K hKl
  have pw : IntKind.u64.wrap (2 ^ K) = 2 ^ K := by rw [u64wrap]; exact Int.emod_eq_of_lt hp.1 hp.2
  have p1 : (1 : Int) ≤ 2 ^ K := Int.pow_pos (by decide)
  have up : U64 (2 ^ K) := hp
  have hm := mod_in64 hhi up p1
  obtain ⟨H, hH⟩ := Int.eq_ofNat_of_zero_le hm.1.1
  obtain ⟨L, rfl⟩ := Int.eq_ofNat_of_zero_le hl0
  have hm1 := hm.1
  have hm2 := hm.2
  rw [hH] at hm1 hm2
  have HP := by_power H L K hKl (by rw [two_pow_cast] at hm2; exact Int.ofNat_lt.1 hm2) (by unfold U64 at hlo; omega)
  have s1 := beq_of HP.1
  have s2 := beq_of HP.2
  have hz : ¬ (2 : Int) ^ K = 0 := by omega
  have HB := Below.refl w.heap.size w
  clear HP hm hp
  go_enter Try.func12, Try.ntmps12
  go_wp2_with (first | (go_at_call 27; ((with_reducible refine (impl_Div64 _ _ _ hm1 hlo up hm2 _).mono ?_); rintro e w1 ⟨rfl, hb⟩; replace HB := bt HB hb; clear hb)) | (go_at_call 28; ((with_reducible refine (impl_Rem64 _ _ _ hm1 hlo up p1 _).mono ?_); rintro e w1 ⟨rfl, hb⟩; replace HB := bt HB hb; clear hb)))
  go_ret
  exact ⟨rfl, HB⟩
end Go.Proofs.Ytejdolfgejlckaa
