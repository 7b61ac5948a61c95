/- Contracts of the laws' helpers times, plus and power: a product and a sum modulo m, and a power modulo m. -/
import Derived.Test.YtejdolfgejlckaaWalkDiv
import Derived.Test.YtejdolfgejlckaaLen
import Derived.Test.YtejdolfgejlckaaLaw
namespace Go.Proofs.Ytejdolfgejlckaa
open Go.RowKit
set_option linter.unusedVariables false
theorem div_join (x y m : Int) : divR64 (mulH64 x y) (mulL64 x y) m = x * y % m := by
  unfold divR64 mulH64 mulL64
  congr 1
  omega
theorem mod_u64 {n m : Int} (hm : U64 m) (hm1 : 1 ≤ m) : U64 (n % m) := by
  have h1 := Int.emod_nonneg n (show m ≠ 0 by omega)
  have h2 := Int.emod_lt_of_pos n (show 0 < m by omega)
  unfold U64 at *
  omega
theorem laws_times (x y m : Int) (hx : U64 x) (hy : U64 y) (hm : U64 m) (hm1 : 1 ≤ m) (w : World) :
    Calls Try.prog 29 #[.int .u64 x, .int .u64 y, .int .u64 m] w fun e w' => e = .returned (.int .u64 (x * y % m)) ∧ Below w.heap.size w w' := by
  have uh := U64_mulH hx hy
  have ul := U64_mulL x y
  have hj := div_join x y m
  have HJ := hide hj
  clear hj
  go_enter Try.func29, Try.ntmps29
  go_wp2_with (first | (go_at_call 24; ((with_reducible refine (impl_Mul64 _ _ hx hy _).mono ?_); rintro e w1 ⟨rfl, rfl⟩)) | (go_at_call 28; ((with_reducible refine (impl_Rem64 _ _ _ uh ul hm hm1 _).mono ?_); rintro e w1 ⟨rfl, hb⟩)))
  go_ret
  exact ⟨ret1 HJ.out, hb⟩
def powM (X N M : Nat) : Nat := X ^ N % M
theorem powM_lt (X N M : Nat) (hM : 0 < M) : powM X N M < M := Nat.mod_lt _ hM
theorem powM_even (X N M k : Nat) (h : N / 2 ^ k % 2 = 0) : powM X (N / 2 ^ (k + 1)) M * powM X (N / 2 ^ (k + 1)) M % M = powM X (N / 2 ^ k) M := by
  unfold powM
  rw [← Nat.mul_mod, ← Nat.pow_add]
  congr 2
  rw [Nat.pow_succ, ← Nat.div_div_eq_div_mul]
  omega
theorem powM_odd (X N M k : Nat) (h : N / 2 ^ k % 2 = 1) : powM X (N / 2 ^ (k + 1)) M * powM X (N / 2 ^ (k + 1)) M % M * X % M = powM X (N / 2 ^ k) M := by
  unfold powM
  rw [← Nat.mul_mod, ← Nat.pow_add]
  have e : N / 2 ^ k = N / 2 ^ (k + 1) + N / 2 ^ (k + 1) + 1 := by
    rw [Nat.pow_succ, ← Nat.div_div_eq_div_mul]
    omega
  rw [e, Nat.pow_add X _ 1, Nat.pow_one, Nat.mod_mul_mod]
def tmN (a b M : Nat) : Nat := a * b % M
theorem tmN_lt (a b M : Nat) (hM : 0 < M) : tmN a b M < M := Nat.mod_lt _ hM
theorem laws_timesN (a b M : Nat) (ha : a < 18446744073709551616) (hb : b < 18446744073709551616) (hM : M < 18446744073709551616) (hM1 : 1 ≤ M) (w : World) :
    Calls Try.prog 29 #[.int .u64 a, .int .u64 b, .int .u64 M] w fun e w' => e = .returned (.int .u64 (tmN a b M : Nat)) ∧ Below w.heap.size w w' := by
  have h := laws_times a b M (by unfold U64; omega) (by unfold U64; omega) (by unfold U64; omega) (by omega) w
  have e : (a : Int) * b % M = ((tmN a b M : Nat) : Int) := by unfold tmN; rw [Int.natCast_emod, Int.natCast_mul]
  rw [e] at h
  exact h
theorem and_one_nat (n : Nat) (h : n < 18446744073709551616) : bits .and .u64 (n : Int) 1 = ((n % 2 : Nat) : Int) := by
  have e := u64_and_nat n 1 h (by omega)
  rw [nat_mask1] at e
  exact e
theorem shr_nat (N k : Nat) : (N : Int) / 2 ^ k = ((N / 2 ^ k : Nat) : Int) := by rw [two_pow_cast, Int.natCast_ediv]
set_option maxRecDepth 100000 in
set_option maxHeartbeats 2000000 in
theorem laws_power (X N M : Nat) (hX : X < 18446744073709551616) (hN : N < 18446744073709551616) (hM : M < 18446744073709551616) (hM1 : 1 ≤ M) (w : World) :
    Calls Try.prog 30 #[.int .u64 X, .int .u64 N, .int .u64 M] w fun e w' => e = .returned (.int .u64 (powM X N M : Nat)) ∧ Below w.heap.size w w' := by
  have hl := bitLen_le64 N (by unfold U64; omega)
  rw [Int.toNat_natCast] at hl
  have HC := hide (impl_Len64 N (by unfold U64; omega))
  have hs := bitLen_spec N
  have HS := hide hs.1
  clear hs
  have h1 : (1 : Int) % (M : Int) = ((1 % M : Nat) : Int) := by rw [Int.natCast_emod]; rfl
  generalize hc1 : 1 % M = c1 at h1
  have HC1 := hide hc1
  clear hc1
  have hz : ¬ M = 0 := by omega
  generalize hbl : bitLen N = bl at *
  have HBL := hide hbl
  clear hbl
  go_enter Try.func30, Try.ntmps30
  go_wp2_with (go_at_call 47; ((with_reducible refine (HC.out _).mono ?_); rintro e w1 ⟨rfl, rfl⟩; rw [Int.toNat_natCast, HBL.out]))
  go_loopw [7, 8] (fun o i wr => ∃ j : Nat, j ≤ 64 ∧ i = .int .i64 ((j : Int) - 1) ∧ o = .int .u64 (powM X (N / 2 ^ j) M : Nat) ∧ Below w.heap.size w wr) (fun _ i _ => (intOf i + 1).toNat)
  case atStart =>
    refine ⟨bl, hl, rfl, congrArg _ ?_, Below.refl _ _⟩
    rw [Nat.div_eq_of_lt HS.out]
    unfold powM
    rw [Nat.pow_zero, HC1.out]
  case round =>
    obtain ⟨j, hj, rfl, rfl, hB⟩ := hrel
    clear h1
    rcases Nat.eq_zero_or_pos j with h0 | h0
    · subst h0
      go_wp2_with fail
      go_ret
      exact ⟨ret1 (by simp), hB⟩
    · obtain ⟨k, rfl⟩ : ∃ k, j = k + 1 := ⟨j - 1, by omega⟩
      have hk : ((k + 1 : Nat) : Int) - 1 = (k : Int) := by omega
      have hk64 : (k : Int) ≤ 63 := by omega
      have hlt : N / 2 ^ k < 18446744073709551616 := Nat.lt_of_le_of_lt (Nat.div_le_self _ _) hN
      have hsh := shr_nat N k
      have hand := and_one_nat (N / 2 ^ k) hlt
      have hE := hide (powM_even X N M k)
      have hO := hide (powM_odd X N M k)
      have pl : powM X (N / 2 ^ (k + 1)) M < 18446744073709551616 := Nat.lt_trans (powM_lt _ _ _ (by omega)) hM
      generalize powM X (N / 2 ^ (k + 1)) M = P at *
      obtain ⟨T, hT⟩ : ∃ T, T = N / 2 ^ k := ⟨_, rfl⟩
      rw [← hT] at hsh hand
      have HT := hide hT
      clear hT
      have tl : tmN P P M < 18446744073709551616 := Nat.lt_trans (tmN_lt _ _ _ (by omega)) hM
      rw [hk]
      rcases Nat.mod_two_eq_zero_or_one (N / 2 ^ k) with hb | hb
      · have HE := hide (hE.out hb)
        rw [← HT.out] at hb
        rw [hb] at hand
        clear hE hO hb hk hlt
        go_wp2_with (go_at_call 29; ((with_reducible refine (laws_timesN _ _ _ (by assumption) (by assumption) hM hM1 _).mono ?_); rintro e w1 ⟨rfl, hb1⟩))
        go_roundw
        case rel => exact ⟨k, by omega, rfl, congrArg _ (congrArg _ HE.out), bt hB hb1⟩
        case measure => simp [intOf]
      · have HO := hide (hO.out hb)
        rw [← HT.out] at hb
        rw [hb] at hand
        clear hE hO hb hk hlt
        go_wp2_with (go_at_call 29; ((with_reducible refine (laws_timesN _ _ _ (by assumption) (by assumption) hM hM1 _).mono ?_); rintro e w1 ⟨rfl, hb1⟩; replace hB := bt hB hb1; clear hb1))
        go_roundw
        case rel => exact ⟨k, by omega, rfl, congrArg _ (congrArg _ HO.out), hB⟩
        case measure => simp [intOf]
end Go.Proofs.Ytejdolfgejlckaa
