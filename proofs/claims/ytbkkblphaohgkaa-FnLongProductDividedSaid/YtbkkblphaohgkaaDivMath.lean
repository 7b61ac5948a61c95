/- Plain arithmetic behind a division of two words by one word, digit by digit of half a word: what the estimated digit is when the corrections end. No program in sight. The divisor has its highest bit set. -/
import Derived.Test.YtbkkblphaohgkaaWords
import Derived.Laws.MathBits
import Derived.Laws.ShiftsVarLaws
namespace Go.Proofs.Ytbkkblphaohgkaa

/-- What holds of the estimated digit q and of the rest r at each correction. -/
def DigInv (u u1 y yn1 q r : Nat) : Prop := q * yn1 + r = u ∧ (u * 4294967296 + u1) / y ≤ q

theorem dig_true_lt {u u1 y : Nat} (hu : u < y) (h1 : u1 < 4294967296) : (u * 4294967296 + u1) / y < 4294967296 := by
  rw [Nat.div_lt_iff_lt_mul (by omega)]
  have : u * 4294967296 + 4294967296 ≤ 4294967296 * y := by
    have := Nat.mul_le_mul_left 4294967296 (show u + 1 ≤ y by omega)
    omega
  omega

theorem dig_start {u u1 y yn1 yn0 : Nat} (hy : y = yn1 * 4294967296 + yn0) (hn : 1 ≤ yn1) (h1 : u1 < 4294967296) : DigInv u u1 y yn1 (u / yn1) (u % yn1) := by
  refine ⟨by have := Nat.div_add_mod u yn1; rw [Nat.mul_comm] at this; exact this, ?_⟩
  rw [Nat.le_div_iff_mul_le (by omega)]
  have hq : (u * 4294967296 + u1) / y * y ≤ u * 4294967296 + u1 := Nat.div_mul_le_self _ _
  generalize (u * 4294967296 + u1) / y = Q at *
  have e : Q * y = Q * yn1 * 4294967296 + Q * yn0 := by rw [hy, Nat.mul_add, ← Nat.mul_assoc]
  generalize Q * yn1 = A at *
  generalize Q * yn0 = B at *
  omega

theorem dig_split {q y yn1 yn0 : Nat} (hy : y = yn1 * 4294967296 + yn0) : q * y = q * yn1 * 4294967296 + q * yn0 := by rw [hy, Nat.mul_add, ← Nat.mul_assoc]

theorem dig_gt {u u1 y yn1 yn0 q r : Nat} (hy : y = yn1 * 4294967296 + yn0) (hu : u < y) (h1 : u1 < 4294967296) (h : DigInv u u1 y yn1 q r)
    (ht : 4294967296 ≤ q ∨ 4294967296 * r + u1 < q * yn0) : (u * 4294967296 + u1) / y < q := by
  rcases ht with ht | ht
  · have := dig_true_lt hu h1; omega
  · rw [Nat.div_lt_iff_lt_mul (show 0 < y by omega), dig_split (q := q) hy]
    have := h.1
    generalize q * yn1 = A at *
    generalize q * yn0 = B at *
    omega

theorem dig_step {u u1 y yn1 yn0 q r : Nat} (hy : y = yn1 * 4294967296 + yn0) (hu : u < y) (h1 : u1 < 4294967296) (h : DigInv u u1 y yn1 q r)
    (ht : 4294967296 ≤ q ∨ 4294967296 * r + u1 < q * yn0) : 1 ≤ q ∧ DigInv u u1 y yn1 (q - 1) (r + yn1) := by
  have hg := dig_gt hy hu h1 h ht
  have hq1 : 1 ≤ q := Nat.lt_of_le_of_lt (Nat.zero_le _) hg
  obtain ⟨q', rfl⟩ : ∃ q', q = q' + 1 := ⟨q - 1, by omega⟩
  simp only [Nat.add_sub_cancel]
  refine ⟨by omega, ?_, Nat.le_of_lt_succ hg⟩
  have := h.1
  rw [Nat.add_mul] at this
  omega

theorem dig_le {u u1 y yn1 yn0 q r : Nat} (hy : y = yn1 * 4294967296 + yn0) (hy0 : 0 < y) (h : DigInv u u1 y yn1 q r)
    (ht : q * yn0 ≤ 4294967296 * r + u1) : q = (u * 4294967296 + u1) / y := by
  refine Nat.le_antisymm ?_ h.2
  rw [Nat.le_div_iff_mul_le hy0, dig_split (q := q) hy]
  have := h.1
  generalize q * yn1 = A at *
  generalize q * yn0 = B at *
  omega

theorem dig_break {u u1 y yn1 yn0 q r : Nat} (hy : y = yn1 * 4294967296 + yn0) (hu : u < y) (h0 : yn0 < 4294967296) (h : DigInv u u1 y yn1 q r)
    (hr : 4294967296 ≤ r) : q = (u * 4294967296 + u1) / y := by
  refine dig_le hy (by omega) h ?_
  have hq : q ≤ 4294967296 := by
    refine Nat.le_of_not_lt fun hc => ?_
    have := Nat.mul_le_mul_right yn1 (show 4294967296 + 1 ≤ q by omega)
    have := h.1
    generalize q * yn1 = A at *
    omega
  have := Nat.mul_le_mul hq (show yn0 ≤ 4294967295 by omega)
  generalize q * yn0 = B at *
  omega

/-- What is left behind a digit, and the two digits together. -/
theorem dig_two {u u1 u0 y q1 q0 r1 r0 : Nat} (hq1 : q1 * y + r1 = u * 4294967296 + u1) (hq0 : q0 * y + r0 = r1 * 4294967296 + u0) :
    (q1 * 4294967296 + q0) * y + r0 = u * 18446744073709551616 + (u1 * 4294967296 + u0) := by
  rw [Nat.add_mul, Nat.mul_assoc, Nat.mul_comm 4294967296 y, ← Nat.mul_assoc]
  generalize q1 * y = A at *
  generalize q0 * y = B at *
  omega

/-- The shift taken back. -/
theorem unshift {N y q r s : Nat} (h : q * (y * 2 ^ s) + r = N * 2 ^ s) (hr : r < y * 2 ^ s) : q * y + r / 2 ^ s = N ∧ r / 2 ^ s < y := by
  have hp : 0 < 2 ^ s := Nat.two_pow_pos s
  have hd : 2 ^ s ∣ r := by
    have h1 : 2 ^ s ∣ q * (y * 2 ^ s) + r := by rw [h]; exact Nat.dvd_mul_left _ _
    have h2 : 2 ^ s ∣ q * (y * 2 ^ s) := by rw [← Nat.mul_assoc]; exact Nat.dvd_mul_left _ _
    exact (Nat.dvd_add_right h2).1 h1
  obtain ⟨c, rfl⟩ := hd
  rw [Nat.mul_div_cancel_left _ hp]
  constructor
  · have : (q * y + c) * 2 ^ s = N * 2 ^ s := by rw [Nat.add_mul, Nat.mul_assoc, Nat.mul_comm c]; exact h
    exact Nat.eq_of_mul_eq_mul_right hp this
  · rw [Nat.mul_comm] at hr
    exact Nat.lt_of_mul_lt_mul_right hr

theorem norm_shift (D : Nat) (h0 : 0 < D) (h1 : D < 18446744073709551616) : 64 - bitLen D ≤ 63 ∧ 9223372036854775808 ≤ D * 2 ^ (64 - bitLen D) ∧ D * 2 ^ (64 - bitLen D) < 18446744073709551616 := by
  obtain ⟨ha, hb⟩ := bitLen_spec D
  have hb' := hb (by omega)
  have hl1 : 1 ≤ bitLen D := by
    refine Nat.lt_of_not_le fun hc => ?_
    have : bitLen D = 0 := by omega
    rw [this] at ha
    simp at ha
    omega
  have hl2 : bitLen D ≤ 64 := by
    refine Nat.le_of_not_lt fun hc => ?_
    have := Nat.pow_le_pow_right (n := 2) (by omega) (show 64 ≤ bitLen D - 1 by omega)
    have e : (2 : Nat) ^ 64 = 18446744073709551616 := by decide
    omega
  have hp : 0 < 2 ^ (64 - bitLen D) := Nat.two_pow_pos _
  refine ⟨by omega, ?_, ?_⟩
  · have h := Nat.mul_le_mul_right (2 ^ (64 - bitLen D)) hb'
    rw [← Nat.pow_add, show bitLen D - 1 + (64 - bitLen D) = 63 by omega] at h
    have e : (2 : Nat) ^ 63 = 9223372036854775808 := by decide
    omega
  · have h := Nat.mul_lt_mul_of_pos_right ha hp
    rw [← Nat.pow_add, show bitLen D + (64 - bitLen D) = 64 by omega] at h
    have e : (2 : Nat) ^ 64 = 18446744073709551616 := by decide
    omega

theorem two_pow_cast (s : Nat) : (2 : Int) ^ s = ((2 ^ s : Nat) : Int) := by simp
theorem shl_in (x s : Nat) (h : x * 2 ^ s < 18446744073709551616) : IntKind.u64.wrap ((x : Int) * 2 ^ s) = ((x * 2 ^ s : Nat) : Int) := by
  rw [two_pow_cast, ← Int.natCast_mul, IntKind.wrap_u64]
  omega
theorem nat_div_int {q y r H L : Nat} (h : q * y + r = H * 18446744073709551616 + L) : (q : Int) * y + r = H * 18446744073709551616 + L := by
  have h' : ((q * y + r : Nat) : Int) = ((H * 18446744073709551616 + L : Nat) : Int) := by rw [h]
  rw [Int.natCast_add, Int.natCast_mul] at h'
  omega

theorem div_setup (H L D s : Nat) (hL : L < 18446744073709551616) (hlt : H < D) (hs : s ≤ 63) (hb1 : 9223372036854775808 ≤ D * 2 ^ s) (hb2 : D * 2 ^ s < 18446744073709551616) :
    ∃ n1 n0 u t u1 u0 Q1 R1 Q0 R0 : Nat,
      (((D * 2 ^ s : Nat) : Int) / 4294967296 = n1) ∧ bits .and .u64 ((D * 2 ^ s : Nat) : Int) 4294967295 = n0 ∧
      bits .or .u64 (IntKind.u64.wrap ((H : Int) * 2 ^ s)) ((L : Int) / 2 ^ (64 - s)) = u ∧
      IntKind.u64.wrap ((L : Int) * 2 ^ s) = (t : Int) ∧ (t : Int) / 4294967296 = u1 ∧ bits .and .u64 (t : Int) 4294967295 = u0 ∧
      D * 2 ^ s = n1 * 4294967296 + n0 ∧ 2147483648 ≤ n1 ∧ n1 < 4294967296 ∧ n0 < 4294967296 ∧ u1 < 4294967296 ∧ u0 < 4294967296 ∧ u < D * 2 ^ s ∧
      Q1 * (D * 2 ^ s) + R1 = u * 4294967296 + u1 ∧ R1 < D * 2 ^ s ∧ Q0 * (D * 2 ^ s) + R0 = R1 * 4294967296 + u0 ∧ R0 < D * 2 ^ s ∧
      (Q1 * 4294967296 + Q0) * D + R0 / 2 ^ s = H * 18446744073709551616 + L ∧ R0 / 2 ^ s < D := by
  have hp : 0 < 2 ^ s := Nat.two_pow_pos s
  have hps : 0 < 2 ^ (64 - s) := Nat.two_pow_pos _
  have e64 : (2 : Nat) ^ (64 - s) * 2 ^ s = 18446744073709551616 := by rw [← Nat.pow_add, show 64 - s + s = 64 by omega]
  have hH : H * 2 ^ s + 2 ^ s ≤ D * 2 ^ s := by
    have := Nat.mul_le_mul_right (2 ^ s) (show H + 1 ≤ D by omega)
    rwa [Nat.add_mul, Nat.one_mul] at this
  have hL1 : L / 2 ^ (64 - s) < 2 ^ s := by
    rw [Nat.div_lt_iff_lt_mul hps, Nat.mul_comm, e64]
    exact hL
  have hLd : L * 2 ^ s / 18446744073709551616 = L / 2 ^ (64 - s) := by rw [← e64, Nat.mul_div_mul_right _ _ hp]
  have hLm := Nat.div_add_mod (L * 2 ^ s) 18446744073709551616
  rw [hLd] at hLm
  generalize hT : L * 2 ^ s % 18446744073709551616 = t at *
  have ht : t < 18446744073709551616 := by omega
  have hY : 0 < D * 2 ^ s := by omega
  refine ⟨D * 2 ^ s / 4294967296, D * 2 ^ s % 4294967296, H * 2 ^ s + L / 2 ^ (64 - s), t, t / 4294967296, t % 4294967296,
    ((H * 2 ^ s + L / 2 ^ (64 - s)) * 4294967296 + t / 4294967296) / (D * 2 ^ s), ((H * 2 ^ s + L / 2 ^ (64 - s)) * 4294967296 + t / 4294967296) % (D * 2 ^ s),
    (((H * 2 ^ s + L / 2 ^ (64 - s)) * 4294967296 + t / 4294967296) % (D * 2 ^ s) * 4294967296 + t % 4294967296) / (D * 2 ^ s),
    (((H * 2 ^ s + L / 2 ^ (64 - s)) * 4294967296 + t / 4294967296) % (D * 2 ^ s) * 4294967296 + t % 4294967296) % (D * 2 ^ s), ?_⟩
  have hq1 := Nat.div_add_mod' ((H * 2 ^ s + L / 2 ^ (64 - s)) * 4294967296 + t / 4294967296) (D * 2 ^ s)
  have hq0 := Nat.div_add_mod' (((H * 2 ^ s + L / 2 ^ (64 - s)) * 4294967296 + t / 4294967296) % (D * 2 ^ s) * 4294967296 + t % 4294967296) (D * 2 ^ s)
  have hr1 := Nat.mod_lt ((H * 2 ^ s + L / 2 ^ (64 - s)) * 4294967296 + t / 4294967296) hY
  have hr0 := Nat.mod_lt (((H * 2 ^ s + L / 2 ^ (64 - s)) * 4294967296 + t / 4294967296) % (D * 2 ^ s) * 4294967296 + t % 4294967296) hY
  have h2 := dig_two hq1 hq0
  have hN : (H * 2 ^ s + L / 2 ^ (64 - s)) * 18446744073709551616 + (t / 4294967296 * 4294967296 + t % 4294967296) = (H * 18446744073709551616 + L) * 2 ^ s := by
    have : H * 18446744073709551616 * 2 ^ s = H * 2 ^ s * 18446744073709551616 := by rw [Nat.mul_right_comm]
    rw [Nat.add_mul, Nat.add_mul, this]
    omega
  rw [hN] at h2
  have h3 := unshift h2 hr0
  refine ⟨by omega, ?_, ?_, ?_, by omega, ?_, by omega, by omega, by omega, Nat.mod_lt _ (by omega), by omega, Nat.mod_lt _ (by omega), by omega, hq1, hr1, hq0, hr0, h3.1, h3.2⟩
  · rw [and_low32 _ (by omega) (by omega)]; omega
  · rw [shl_in H s (by omega), two_pow_cast, ← Int.natCast_ediv, u64_or_nat _ _ (by omega) (by omega), nat_join s _ _ (by simp) hL1]
  · rw [two_pow_cast, ← Int.natCast_mul, IntKind.wrap_u64]
    omega
  · rw [and_low32 _ (by omega) (by omega)]; omega
end Go.Proofs.Ytbkkblphaohgkaa
