/- The walk of the law FnNegative: out of the contracts of what it calls, it returns true; nothing that was in memory changes. -/
import Derived.Test.YtejdolfgejlckaaWalkDiv
import Derived.Test.YtejdolfgejlckaaPower
import Derived.Test.YtejdolfgejlckaaLaw
namespace Go.Proofs.Ytejdolfgejlckaa
open Go.RowKit
set_option linter.unusedVariables false
theorem impl_LeadingZeros64 (x : Int) (hx : U64 x) (w : World) :
    Calls Try.prog 26 #[.int .u64 x] w fun e w' => e = .returned (.int .i64 (64 - bitLen x.toNat : Nat)) ∧ w = w' := by
  go_enter Try.func26, Try.ntmps26
  go_wp2_with (go_at_call 42; refine (bits_LeadingZeros64 x hx _).mono ?_; rintro e w' ⟨rfl, rfl⟩)
  go_ret
  exact ⟨rfl, rfl⟩
/-- A bit of the complement. -/
theorem comp_bit (X N j : Nat) (h : X + N = 18446744073709551615) (hj : j < 64) : X / 2 ^ j % 2 = 1 - N / 2 ^ j % 2 := by
  have hX : X = 2 ^ 64 - (N + 1) := by omega
  have hs := Nat.testBit_two_pow_sub_succ (n := 64) (x := N) (by omega) j
  rw [← hX] at hs
  rw [Nat.testBit_eq_decide_div_mod_eq, Nat.testBit_eq_decide_div_mod_eq] at hs
  have : N / 2 ^ j % 2 = 0 ∨ N / 2 ^ j % 2 = 1 := by omega
  rcases this with h1 | h1
  · rw [h1] at hs ⊢
    simp [hj] at hs
    omega
  · rw [h1] at hs ⊢
    simp at hs
    omega
theorem ones_more (X N k : Nat) (h : X + N = 18446744073709551615) (hk : k < 64) (hN : N < 2 ^ (64 - k)) (hb : X / 2 ^ (63 - k) % 2 = 1) : N < 2 ^ (64 - (k + 1)) := by
  have hc := comp_bit X N (63 - k) h (by omega)
  rw [hb] at hc
  have e : 2 ^ (64 - k) = 2 ^ (63 - k) * 2 := by rw [← Nat.pow_succ]; congr 1; omega
  have hd : N / 2 ^ (63 - k) < 2 := by rw [Nat.div_lt_iff_lt_mul (Nat.two_pow_pos _), Nat.mul_comm, ← e]; exact hN
  have h0 : N / 2 ^ (63 - k) = 0 := by
    revert hc hd
    generalize N / 2 ^ (63 - k) = q
    omega
  have := (Nat.div_eq_zero_iff_lt (Nat.two_pow_pos _)).1 h0
  rw [show 64 - (k + 1) = 63 - k by omega]
  exact this
theorem ones_end (X N k : Nat) (h : X + N = 18446744073709551615) (hk : k < 64) (hN : N < 2 ^ (64 - k)) (hb : X / 2 ^ (63 - k) % 2 = 0) : 64 - bitLen N = k := by
  have hc := comp_bit X N (63 - k) h (by omega)
  rw [hb] at hc
  have h1 : 2 ^ (63 - k) ≤ N := by
    refine Nat.le_of_not_lt fun hlt => ?_
    rw [Nat.div_eq_of_lt hlt] at hc
    omega
  have hN0 : N ≠ 0 := by have := Nat.two_pow_pos (63 - k); omega
  have hl : N.log2 = 63 - k := (Nat.log2_eq_iff hN0).2 ⟨h1, by rw [show 63 - k + 1 = 64 - k by omega]; exact hN⟩
  unfold bitLen
  rw [if_neg hN0, hl]
  omega
theorem neg_law (x n : Int) (hx : U64 x) (hn : n = 18446744073709551615 - x) :
    subD64 0 x 0 = addS64 n 0 1 ∧ subB64 0 x 0 = 1 - addC64 n 0 1 ∧ (subB64 0 x 0 == 0) = (x == 0) := by
  unfold U64 at hx
  unfold subD64 addS64 subB64 addC64
  subst hn
  refine ⟨by omega, ?_, ?_⟩
  · split <;> omega
  · split
    · have : x ≠ 0 := by omega
      simp [this]
    · have : x = 0 := by omega
      simp [this]
set_option maxRecDepth 100000 in
set_option maxHeartbeats 4000000 in
theorem neg_core (X N : Nat) (w : World) (hX : X < 18446744073709551616) (hXN : X + N = 18446744073709551615) (hn : bits .xor .u64 IntKind.u64.max (X : Int) = N) :
    Calls Try.prog 10 #[.int .u64 X] w fun e w' => e = .returned (.bool true) ∧ Below w.heap.size w w' := by
  have uX : U64 X := by unfold U64; omega
  have uN : U64 N := by unfold U64; omega
  have H := neg_law X N uX (by omega)
  have s1 := beq_of H.1
  have s2 := beq_of H.2.1
  have s3 : ((subB64 0 X 0 == 0) == ((X : Int) == 0)) = true := by rw [H.2.2]; simp
  have b1 := B1_addC64 uN U64_0 B1_1
  have b2 := b1.1
  have b3 := b1.2
  have hsg : IntKind.u64.signed = false := rfl
  have HX := hide hXN
  have HC := hide (impl_LeadingZeros64 N uN)
  clear H b1 hXN
  go_enter Try.func10, Try.ntmps10
  go_wp2_with (first | (go_at_call 25; ((with_reducible refine (impl_Sub64 _ _ _ U64_0 uX B1_0 _).mono ?_); rintro e w1 ⟨rfl, rfl⟩)) | (go_at_call 23; ((with_reducible refine (impl_Add64 _ _ _ uN U64_0 B1_1 _).mono ?_); rintro e w1 ⟨rfl, rfl⟩)))
  go_loop [7] (fun i => ∃ k : Nat, k ≤ 64 ∧ i = .int .i64 (k : Int) ∧ Hid (N < 2 ^ (64 - k))) (fun i => 64 - (intOf i).toNat)
  case atStart => exact ⟨0, by omega, rfl, by have := HX.out; show N < 2 ^ 64; omega⟩
  case round =>
    obtain ⟨k, hk, rfl, hN⟩ := hrel
    by_cases hlt : k < 64
    · have hsh := shr_nat X (63 - k)
      have hand := and_one_nat (X / 2 ^ (63 - k)) (Nat.lt_of_le_of_lt (Nat.div_le_self _ _) hX)
      have hM := hide (ones_more X N k HX.out hlt hN.out)
      have hE := hide (ones_end X N k HX.out hlt hN.out)
      obtain ⟨T, hT⟩ : ∃ T, T = X / 2 ^ (63 - k) := ⟨_, rfl⟩
      rw [← hT] at hsh hand
      have HT := hide hT
      clear hT
      rcases Nat.mod_two_eq_zero_or_one (X / 2 ^ (63 - k)) with hb | hb
      · have HE := hide (hE.out hb)
        rw [← HT.out] at hb
        rw [hb] at hand
        clear hE hM hb
        go_wp2_with (go_at_call 26; ((with_reducible refine (HC.out _).mono ?_); rintro e w1 ⟨rfl, rfl⟩; rw [Int.toNat_natCast, HE.out]))
        go_ret
        exact ⟨rfl, Below.refl _ _⟩
      · have HM := hide (hM.out hb)
        rw [← HT.out] at hb
        rw [hb] at hand
        clear hE hM hb
        go_wp2_with fail
        go_round
        case rel => exact ⟨k + 1, by omega, by go_num, HM⟩
        case measure => simp [intOf]; omega
    · obtain rfl : k = 64 := by omega
      have hz : 64 - bitLen N = 64 := by
        have : N = 0 := by have := hN.out; simp at this; exact this
        rw [this]
        rfl
      have HZ := hide hz
      clear hz
      go_wp2_with (go_at_call 26; ((with_reducible refine (HC.out _).mono ?_); rintro e w1 ⟨rfl, rfl⟩; rw [Int.toNat_natCast, HZ.out]))
      go_ret
      exact ⟨rfl, Below.refl _ _⟩
theorem walk_FnNegative (x : Int) (hx : U64 x) (w : World) :
    Calls Try.prog 10 #[.int .u64 x] w fun e w' => e = .returned (.bool true) ∧ Below w.heap.size w w' := by
  have hn := not64 x hx
  unfold U64 at hx
  obtain ⟨X, rfl⟩ := Int.eq_ofNat_of_zero_le hx.1
  have e : (18446744073709551615 : Int) - X = ((18446744073709551615 - X : Nat) : Int) := by omega
  rw [e] at hn
  exact neg_core X (18446744073709551615 - X) w (by omega) (by omega) hn
end Go.Proofs.Ytejdolfgejlckaa
