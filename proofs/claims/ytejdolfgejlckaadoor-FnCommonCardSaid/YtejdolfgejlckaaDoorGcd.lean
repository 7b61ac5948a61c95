/- Plain arithmetic: the zeros behind a number, and the greatest common divisor by taking them away and subtracting. No program in sight. -/
import Derived.Lib.TrailingZeros
import Derived.Laws.Bits64b
namespace Go.Proofs.YtejdolfgejlckaaDoor

/-- A number is its zeros behind, and an odd part. -/
theorem ctz_parts {x : Nat} (h0 : x ≠ 0) (h : x < 18446744073709551616) : Lib.ctz 64 x < 64 ∧ ∃ c, x = 2 ^ Lib.ctz 64 x * c ∧ c % 2 = 1 := by
  obtain ⟨m, hm, hk⟩ := Lib.ctzFrom_spec 64 x (by omega) h
  have e : Lib.ctz 64 x = Lib.ctzFrom 64 x := by simp [Lib.ctz, h0]
  rw [e]
  exact ⟨hk, 2 * m + 1, hm, by omega⟩
theorem odd_cop {a : Nat} (k : Nat) (ha : a % 2 = 1) : Nat.Coprime (2 ^ k) a := by
  apply Nat.Coprime.pow_left
  show Nat.gcd 2 a = 1
  rw [Nat.gcd_rec, ha]
  rfl
theorem gcd_odd {a : Nat} (k c : Nat) (ha : a % 2 = 1) : Nat.gcd a (2 ^ k * c) = Nat.gcd a c := Nat.Coprime.gcd_mul_left_cancel_right c (odd_cop k ha)
/-- One step: the zeros behind b are taken away, and the lesser number is subtracted from the greater one. -/
theorem bin_step {a b k c s lo hi : Nat} (ha : a % 2 = 1) (hb : b = 2 ^ k * c) (hc : c % 2 = 1) (hs : s = 0 ∨ b % 2 = 0) (hal : a < 18446744073709551616) (hbl : b < 18446744073709551616)
    (hp : a * b * 2 ^ s < 680564733841876926926749214863536422912) (h : (lo = a ∧ hi = c) ∨ (lo = c ∧ hi = a)) (hle : lo ≤ hi) :
    Nat.gcd lo (hi - lo) = Nat.gcd a b ∧ lo * (hi - lo) * 2 ^ (s + 1) < 680564733841876926926749214863536422912 := by
  have hpos : 0 < 2 ^ k := Nat.pow_pos (by decide)
  have hcb : c ≤ b := by rw [hb]; exact Nat.le_mul_of_pos_left _ hpos
  have hg : Nat.gcd a b = Nat.gcd a c := by rw [hb, gcd_odd k c ha]
  have hlh : Nat.gcd lo hi = Nat.gcd a c ∧ lo * hi = a * c := by
    rcases h with ⟨rfl, rfl⟩ | ⟨rfl, rfl⟩
    · exact ⟨rfl, rfl⟩
    · exact ⟨Nat.gcd_comm _ _, Nat.mul_comm _ _⟩
  refine ⟨by rw [Nat.gcd_sub_self_right hle, hg, hlh.1], ?_⟩
  have h1 : lo * (hi - lo) ≤ a * c := by rw [← hlh.2]; exact Nat.mul_le_mul_left _ (by omega)
  have h2 : lo * (hi - lo) * 2 ^ (s + 1) ≤ a * c * 2 ^ (s + 1) := Nat.mul_le_mul_right _ h1
  refine Nat.lt_of_le_of_lt h2 ?_
  match k, hb, hpos with
  | 0, hb, _ =>
    have hbc : b = c := by rw [hb, Nat.pow_zero, Nat.one_mul]
    have hs0 : s = 0 := by omega
    subst hs0
    have := Nat.mul_le_mul (show a ≤ 18446744073709551615 by omega) (show c ≤ 18446744073709551615 by omega)
    omega
  | k + 1, hb, _ =>
    have h3 : 2 * c ≤ b := by
      rw [hb, Nat.pow_succ, Nat.mul_comm (2 ^ k), Nat.mul_assoc]
      exact Nat.mul_le_mul_left _ (Nat.le_mul_of_pos_left _ (Nat.pow_pos (by decide)))
    have h4 : a * c * 2 ^ (s + 1) = a * (2 * c) * 2 ^ s := by
      rw [Nat.pow_succ, Nat.mul_comm (2 ^ s), ← Nat.mul_assoc, Nat.mul_assoc a c, Nat.mul_comm c 2]
    rw [h4]
    exact Nat.lt_of_le_of_lt (Nat.mul_le_mul_right _ (Nat.mul_le_mul_left _ h3)) hp
theorem bin_steps {a b s : Nat} (ha : a % 2 = 1) (hb : b ≠ 0) (hp : a * b * 2 ^ s < 680564733841876926926749214863536422912) : s < 129 := by
  have h1 : 0 < a * b := Nat.mul_pos (by omega) (by omega)
  have h2 : 2 ^ s ≤ a * b * 2 ^ s := Nat.le_mul_of_pos_left _ h1
  apply Nat.lt_of_not_le
  intro h
  have h3 : 2 ^ 129 ≤ 2 ^ s := Nat.pow_le_pow_right (by decide) h
  omega
theorem bin_start {a b : Nat} (hal : a < 18446744073709551616) (hbl : b < 18446744073709551616) : a * b * 2 ^ 0 < 680564733841876926926749214863536422912 := by
  have := Nat.mul_le_mul (show a ≤ 18446744073709551615 by omega) (show b ≤ 18446744073709551615 by omega)
  omega
theorem bin_end {x y i j a c K : Nat} (hx : x = 2 ^ i * a) (ha : a % 2 = 1) (hy : y = 2 ^ j * c) (hc : c % 2 = 1) (hK : (i ≤ j ∧ K = i) ∨ (j ≤ i ∧ K = j)) :
    Nat.gcd a y * 2 ^ K = Nat.gcd x y := by
  rw [show Nat.gcd a y = Nat.gcd a c by rw [hy, gcd_odd j c ha], hx, hy, Nat.mul_comm]
  rcases hK with ⟨h, rfl⟩ | ⟨h, rfl⟩
  · obtain ⟨d, rfl⟩ : ∃ d, j = K + d := ⟨j - K, by omega⟩
    rw [Nat.pow_add, Nat.mul_assoc, Nat.gcd_mul_left, gcd_odd d c ha]
  · obtain ⟨d, rfl⟩ : ∃ d, i = K + d := ⟨i - K, by omega⟩
    rw [Nat.pow_add, Nat.mul_assoc, Nat.gcd_mul_left, Nat.gcd_comm (2 ^ d * a), gcd_odd d a hc, Nat.gcd_comm]
theorem tz_key (x a : Nat) (hx : x < 18446744073709551616) (hx0 : x ≠ 0) (hlow : x &&& (18446744073709551616 - x) = a) :
    IntKind.u64.wrap (bits BinOp.and IntKind.u64 (x : Int) (IntKind.u64.wrap (-(x : Int))) * 285870213051353865) / 288230376151711744 = ((a * 285870213051353865 % 18446744073709551616 / 288230376151711744 : Nat) : Int) := by
  have e1 : IntKind.u64.wrap (-(x : Int)) = ((18446744073709551616 - x : Nat) : Int) := by rw [IntKind.wrap_u64]; omega
  rw [e1, bits_and_u64_nat x _ hx (by omega), hlow, IntKind.wrap_u64]
  omega
theorem and_one (D : Nat) (hD : D < 18446744073709551616) (he : D % 2 = 0) : (bits BinOp.and IntKind.u64 (D : Int) 1 == 1) = false := by
  rw [show (1 : Int) = ((1 : Nat) : Int) from rfl, bits_and_u64_nat D 1 hD (by omega), Nat.and_one_is_mod, he]
  rfl
theorem or_none (D : Nat) (hD : D < 18446744073709551616) : bits BinOp.or IntKind.u64 (D : Int) 0 = (D : Int) ∧ bits BinOp.or IntKind.u64 0 (D : Int) = (D : Int) := by
  have h1 := bits_or_u64_nat D 0 hD (by omega)
  have h2 := bits_or_u64_nat 0 D (by omega) hD
  rw [Nat.or_zero] at h1
  rw [Nat.zero_or] at h2
  exact ⟨h1, h2⟩
end Go.Proofs.YtejdolfgejlckaaDoor
