/- Plain arithmetic: the highest bit of the expressions by which a carry and a borrow are found, for words of 64 and 32 bits. No program in sight. -/
import Derived.Laws.BitsAllLaws
import Derived.Test.YtejdolfgejlckaaDoorWords
namespace Go.Proofs.YtejdolfgejlckaaDoor

theorem top64 (n : Nat) (h : n < 18446744073709551616) : n / 9223372036854775808 = (n.testBit 63).toNat := by
  rw [Nat.testBit_eq_decide_div_mod_eq]
  have e : (2 : Nat) ^ 63 = 9223372036854775808 := by decide
  rw [e]
  by_cases h1 : n / 9223372036854775808 % 2 = 1
  · simp [h1]; omega
  · simp [h1]; omega
theorem bit64 (n : Nat) (h : n < 18446744073709551616) : n.testBit 63 = decide (9223372036854775808 ≤ n) := by
  rw [Nat.testBit_eq_decide_div_mod_eq]
  have e : (2 : Nat) ^ 63 = 9223372036854775808 := by decide
  rw [e]
  congr 1
  rw [eq_iff_iff]
  omega
theorem ones64 : Nat.testBit 18446744073709551615 63 = true := by decide
theorem borrow_nat64 (X Y c D : Nat) (hX : X < 18446744073709551616) (hY : Y < 18446744073709551616) (hc : c ≤ 1) (hD : D = (X + 2 * 18446744073709551616 - Y - c) % 18446744073709551616) :
    (((18446744073709551615 ^^^ X) &&& Y) ||| ((18446744073709551615 ^^^ (X ^^^ Y)) &&& D)) / 9223372036854775808 = if X < Y + c then 1 else 0 := by
  have hDl : D < 18446744073709551616 := by omega
  have hb : (((18446744073709551615 ^^^ X) &&& Y) ||| ((18446744073709551615 ^^^ (X ^^^ Y)) &&& D)) < 2 ^ 64 := Nat.or_lt_two_pow (Nat.and_lt_two_pow _ (by omega)) (Nat.and_lt_two_pow _ (by omega))
  rw [top64 _ (by omega)]
  simp only [Nat.testBit_or, Nat.testBit_and, Nat.testBit_xor, ones64, bit64 X hX, bit64 Y hY, bit64 D hDl]
  by_cases h1 : 9223372036854775808 ≤ X <;> by_cases h2 : 9223372036854775808 ≤ Y <;> by_cases h3 : 9223372036854775808 ≤ D <;> simp [h1, h2, h3] <;> omega
theorem carry_nat64 (X Y c S : Nat) (hX : X < 18446744073709551616) (hY : Y < 18446744073709551616) (hc : c ≤ 1) (hS : S = (X + Y + c) % 18446744073709551616) :
    ((X &&& Y) ||| ((X ||| Y) &&& (18446744073709551615 - S))) / 9223372036854775808 = (X + Y + c) / 18446744073709551616 := by
  have hSl : S < 18446744073709551616 := by omega
  have hb : ((X &&& Y) ||| ((X ||| Y) &&& (18446744073709551615 - S))) < 2 ^ 64 := Nat.or_lt_two_pow (Nat.and_lt_two_pow _ (by omega)) (Nat.and_lt_two_pow _ (by omega))
  have hn : Nat.testBit (18446744073709551615 - S) 63 = !decide (9223372036854775808 ≤ S) := by
    rw [bit64 _ (by omega)]
    by_cases h : 9223372036854775808 ≤ S <;> simp [h] <;> omega
  rw [top64 _ (by omega)]
  simp only [Nat.testBit_or, Nat.testBit_and, hn, bit64 X hX, bit64 Y hY]
  by_cases h1 : 9223372036854775808 ≤ X <;> by_cases h2 : 9223372036854775808 ≤ Y <;> by_cases h3 : 9223372036854775808 ≤ S <;> simp [h1, h2, h3] <;> omega
theorem not64 (x : Int) (h : U64 x) : bits .xor .u64 IntKind.u64.max x = 18446744073709551615 - x := by
  obtain ⟨h0, h1⟩ := h
  obtain ⟨X, rfl⟩ := Int.eq_ofNat_of_zero_le h0
  have e := u64_xor_nat 18446744073709551615 X (by omega) (by omega)
  have hm : IntKind.u64.max = ((18446744073709551615 : Nat) : Int) := by decide
  rw [hm, e]
  have hx : 18446744073709551615 ^^^ X = 18446744073709551615 - X := by
    apply Nat.eq_of_testBit_eq
    intro i
    have hs := Nat.testBit_two_pow_sub_succ (n := 64) (x := X) (by omega) i
    have h2 : (2 : Nat) ^ 64 - (X + 1) = 18446744073709551615 - X := by omega
    rw [h2] at hs
    have ho := Nat.testBit_two_pow_sub_one 64 i
    have h3 : (2 : Nat) ^ 64 - 1 = 18446744073709551615 := by decide
    rw [h3] at ho
    rw [hs, Nat.testBit_xor, ho]
    by_cases hi : i < 64
    · simp [hi]
    · have : X.testBit i = false := Nat.testBit_lt_two_pow (Nat.lt_of_lt_of_le (show X < 2 ^ 64 by omega) (Nat.pow_le_pow_right (by omega) (by omega)))
      simp [hi, this]
  rw [hx]
  omega
theorem borrow64 (x y c : Int) (hx : U64 x) (hy : U64 y) (hc : B1 c) :
    bits .or .u64 (bits .and .u64 (bits .xor .u64 IntKind.u64.max x) y) (bits .and .u64 (bits .xor .u64 IntKind.u64.max (bits .xor .u64 x y)) (subD64 x y c)) / 9223372036854775808 = subB64 x y c := by
  have hd := U64_subD x y c
  obtain ⟨hx0, hx1⟩ := hx
  obtain ⟨hy0, hy1⟩ := hy
  obtain ⟨hc0, hc1⟩ := hc
  obtain ⟨hd0, hd1⟩ := hd
  obtain ⟨D, hD⟩ := Int.eq_ofNat_of_zero_le hd0
  obtain ⟨X, rfl⟩ := Int.eq_ofNat_of_zero_le hx0
  obtain ⟨Y, rfl⟩ := Int.eq_ofNat_of_zero_le hy0
  obtain ⟨C, rfl⟩ := Int.eq_ofNat_of_zero_le hc0
  have hD' : D = (X + 2 * 18446744073709551616 - Y - C) % 18446744073709551616 := by unfold subD64 at hD; omega
  have hb := borrow_nat64 X Y C D (by omega) (by omega) (by omega) hD'
  have hm : IntKind.u64.max = ((18446744073709551615 : Nat) : Int) := by decide
  have b1 : X ^^^ Y < 2 ^ 64 := Nat.xor_lt_two_pow (by omega) (by omega)
  have b2 : 18446744073709551615 ^^^ X < 2 ^ 64 := Nat.xor_lt_two_pow (by omega) (by omega)
  have b3 : 18446744073709551615 ^^^ (X ^^^ Y) < 2 ^ 64 := Nat.xor_lt_two_pow (by omega) b1
  have b4 : (18446744073709551615 ^^^ X) &&& Y < 2 ^ 64 := Nat.and_lt_two_pow _ (by omega)
  have b5 : (18446744073709551615 ^^^ (X ^^^ Y)) &&& D < 2 ^ 64 := Nat.and_lt_two_pow _ (by omega)
  rw [hD, hm, u64_xor_nat X Y (by omega) (by omega), u64_xor_nat _ X (by omega) (by omega), u64_xor_nat _ (X ^^^ Y) (by omega) (by omega),
    u64_and_nat _ Y (by omega) (by omega), u64_and_nat _ D (by omega) (by omega), u64_or_nat _ _ (by omega) (by omega)]
  unfold subB64
  by_cases h : X < Y + C
  · rw [if_pos (by omega)]; rw [if_pos h] at hb; omega
  · rw [if_neg (by omega)]; rw [if_neg h] at hb; omega
theorem carry64 (x y c : Int) (hx : U64 x) (hy : U64 y) (hc : B1 c) :
    bits .or .u64 (bits .and .u64 x y) (bits .andNot .u64 (bits .or .u64 x y) (addS64 x y c)) / 9223372036854775808 = addC64 x y c := by
  have hd := U64_addS x y c
  obtain ⟨hx0, hx1⟩ := hx
  obtain ⟨hy0, hy1⟩ := hy
  obtain ⟨hc0, hc1⟩ := hc
  obtain ⟨hd0, hd1⟩ := hd
  obtain ⟨S, hS⟩ := Int.eq_ofNat_of_zero_le hd0
  obtain ⟨X, rfl⟩ := Int.eq_ofNat_of_zero_le hx0
  obtain ⟨Y, rfl⟩ := Int.eq_ofNat_of_zero_le hy0
  obtain ⟨C, rfl⟩ := Int.eq_ofNat_of_zero_le hc0
  have hS' : S = (X + Y + C) % 18446744073709551616 := by unfold addS64 at hS; omega
  have hb := carry_nat64 X Y C S (by omega) (by omega) (by omega) hS'
  have b1 : X ||| Y < 2 ^ 64 := Nat.or_lt_two_pow (by omega) (by omega)
  have b2 : X &&& Y < 2 ^ 64 := Nat.and_lt_two_pow _ (by omega)
  have b4 : (X ||| Y) &&& (18446744073709551615 - S) < 2 ^ 64 := Nat.and_lt_two_pow _ (by omega)
  rw [hS, u64_or_nat X Y (by omega) (by omega), u64_and_nat X Y (by omega) (by omega), u64_andNot_nat _ S (by omega) (by omega), u64_or_nat _ _ (by omega) (by omega)]
  unfold addC64
  omega

theorem top32 (n : Nat) (h : n < 4294967296) : n / 2147483648 = (n.testBit 31).toNat := by
  rw [Nat.testBit_eq_decide_div_mod_eq]
  have e : (2 : Nat) ^ 31 = 2147483648 := by decide
  rw [e]
  by_cases h1 : n / 2147483648 % 2 = 1
  · simp [h1]; omega
  · simp [h1]; omega
theorem bit32 (n : Nat) (h : n < 4294967296) : n.testBit 31 = decide (2147483648 ≤ n) := by
  rw [Nat.testBit_eq_decide_div_mod_eq]
  have e : (2 : Nat) ^ 31 = 2147483648 := by decide
  rw [e]
  congr 1
  rw [eq_iff_iff]
  omega
theorem ones32 : Nat.testBit 4294967295 31 = true := by decide
theorem borrow_nat32 (X Y c D : Nat) (hX : X < 4294967296) (hY : Y < 4294967296) (hc : c ≤ 1) (hD : D = (X + 2 * 4294967296 - Y - c) % 4294967296) :
    (((4294967295 ^^^ X) &&& Y) ||| ((4294967295 ^^^ (X ^^^ Y)) &&& D)) / 2147483648 = if X < Y + c then 1 else 0 := by
  have hDl : D < 4294967296 := by omega
  have hb : (((4294967295 ^^^ X) &&& Y) ||| ((4294967295 ^^^ (X ^^^ Y)) &&& D)) < 2 ^ 32 := Nat.or_lt_two_pow (Nat.and_lt_two_pow _ (by omega)) (Nat.and_lt_two_pow _ (by omega))
  rw [top32 _ (by omega)]
  simp only [Nat.testBit_or, Nat.testBit_and, Nat.testBit_xor, ones32, bit32 X hX, bit32 Y hY, bit32 D hDl]
  by_cases h1 : 2147483648 ≤ X <;> by_cases h2 : 2147483648 ≤ Y <;> by_cases h3 : 2147483648 ≤ D <;> simp [h1, h2, h3] <;> omega
theorem carry_nat32 (X Y c S : Nat) (hX : X < 4294967296) (hY : Y < 4294967296) (hc : c ≤ 1) (hS : S = (X + Y + c) % 4294967296) :
    ((X &&& Y) ||| ((X ||| Y) &&& (4294967295 - S))) / 2147483648 = (X + Y + c) / 4294967296 := by
  have hSl : S < 4294967296 := by omega
  have hb : ((X &&& Y) ||| ((X ||| Y) &&& (4294967295 - S))) < 2 ^ 32 := Nat.or_lt_two_pow (Nat.and_lt_two_pow _ (by omega)) (Nat.and_lt_two_pow _ (by omega))
  have hn : Nat.testBit (4294967295 - S) 31 = !decide (2147483648 ≤ S) := by
    rw [bit32 _ (by omega)]
    by_cases h : 2147483648 ≤ S <;> simp [h] <;> omega
  rw [top32 _ (by omega)]
  simp only [Nat.testBit_or, Nat.testBit_and, hn, bit32 X hX, bit32 Y hY]
  by_cases h1 : 2147483648 ≤ X <;> by_cases h2 : 2147483648 ≤ Y <;> by_cases h3 : 2147483648 ≤ S <;> simp [h1, h2, h3] <;> omega
theorem not32 (x : Int) (h : U32 x) : bits .xor .u32 IntKind.u32.max x = 4294967295 - x := by
  obtain ⟨h0, h1⟩ := h
  obtain ⟨X, rfl⟩ := Int.eq_ofNat_of_zero_le h0
  have e := u32_xor_nat 4294967295 X (by omega) (by omega)
  have hm : IntKind.u32.max = ((4294967295 : Nat) : Int) := by decide
  rw [hm, e]
  have hx : 4294967295 ^^^ X = 4294967295 - X := by
    apply Nat.eq_of_testBit_eq
    intro i
    have hs := Nat.testBit_two_pow_sub_succ (n := 32) (x := X) (by omega) i
    have h2 : (2 : Nat) ^ 32 - (X + 1) = 4294967295 - X := by omega
    rw [h2] at hs
    have ho := Nat.testBit_two_pow_sub_one 32 i
    have h3 : (2 : Nat) ^ 32 - 1 = 4294967295 := by decide
    rw [h3] at ho
    rw [hs, Nat.testBit_xor, ho]
    by_cases hi : i < 32
    · simp [hi]
    · have : X.testBit i = false := Nat.testBit_lt_two_pow (Nat.lt_of_lt_of_le (show X < 2 ^ 32 by omega) (Nat.pow_le_pow_right (by omega) (by omega)))
      simp [hi, this]
  rw [hx]
  omega
theorem borrow32 (x y c : Int) (hx : U32 x) (hy : U32 y) (hc : B1 c) :
    bits .or .u32 (bits .and .u32 (bits .xor .u32 IntKind.u32.max x) y) (bits .and .u32 (bits .xor .u32 IntKind.u32.max (bits .xor .u32 x y)) (subD32 x y c)) / 2147483648 = subB32 x y c := by
  have hd := U32_subD x y c
  obtain ⟨hx0, hx1⟩ := hx
  obtain ⟨hy0, hy1⟩ := hy
  obtain ⟨hc0, hc1⟩ := hc
  obtain ⟨hd0, hd1⟩ := hd
  obtain ⟨D, hD⟩ := Int.eq_ofNat_of_zero_le hd0
  obtain ⟨X, rfl⟩ := Int.eq_ofNat_of_zero_le hx0
  obtain ⟨Y, rfl⟩ := Int.eq_ofNat_of_zero_le hy0
  obtain ⟨C, rfl⟩ := Int.eq_ofNat_of_zero_le hc0
  have hD' : D = (X + 2 * 4294967296 - Y - C) % 4294967296 := by unfold subD32 at hD; omega
  have hb := borrow_nat32 X Y C D (by omega) (by omega) (by omega) hD'
  have hm : IntKind.u32.max = ((4294967295 : Nat) : Int) := by decide
  have b1 : X ^^^ Y < 2 ^ 32 := Nat.xor_lt_two_pow (by omega) (by omega)
  have b2 : 4294967295 ^^^ X < 2 ^ 32 := Nat.xor_lt_two_pow (by omega) (by omega)
  have b3 : 4294967295 ^^^ (X ^^^ Y) < 2 ^ 32 := Nat.xor_lt_two_pow (by omega) b1
  have b4 : (4294967295 ^^^ X) &&& Y < 2 ^ 32 := Nat.and_lt_two_pow _ (by omega)
  have b5 : (4294967295 ^^^ (X ^^^ Y)) &&& D < 2 ^ 32 := Nat.and_lt_two_pow _ (by omega)
  rw [hD, hm, u32_xor_nat X Y (by omega) (by omega), u32_xor_nat _ X (by omega) (by omega), u32_xor_nat _ (X ^^^ Y) (by omega) (by omega),
    u32_and_nat _ Y (by omega) (by omega), u32_and_nat _ D (by omega) (by omega), u32_or_nat _ _ (by omega) (by omega)]
  unfold subB32
  by_cases h : X < Y + C
  · rw [if_pos (by omega)]; rw [if_pos h] at hb; omega
  · rw [if_neg (by omega)]; rw [if_neg h] at hb; omega
theorem carry32 (x y c : Int) (hx : U32 x) (hy : U32 y) (hc : B1 c) :
    bits .or .u32 (bits .and .u32 x y) (bits .andNot .u32 (bits .or .u32 x y) (addS32 x y c)) / 2147483648 = addC32 x y c := by
  have hd := U32_addS x y c
  obtain ⟨hx0, hx1⟩ := hx
  obtain ⟨hy0, hy1⟩ := hy
  obtain ⟨hc0, hc1⟩ := hc
  obtain ⟨hd0, hd1⟩ := hd
  obtain ⟨S, hS⟩ := Int.eq_ofNat_of_zero_le hd0
  obtain ⟨X, rfl⟩ := Int.eq_ofNat_of_zero_le hx0
  obtain ⟨Y, rfl⟩ := Int.eq_ofNat_of_zero_le hy0
  obtain ⟨C, rfl⟩ := Int.eq_ofNat_of_zero_le hc0
  have hS' : S = (X + Y + C) % 4294967296 := by unfold addS32 at hS; omega
  have hb := carry_nat32 X Y C S (by omega) (by omega) (by omega) hS'
  have b1 : X ||| Y < 2 ^ 32 := Nat.or_lt_two_pow (by omega) (by omega)
  have b2 : X &&& Y < 2 ^ 32 := Nat.and_lt_two_pow _ (by omega)
  have b4 : (X ||| Y) &&& (4294967295 - S) < 2 ^ 32 := Nat.and_lt_two_pow _ (by omega)
  rw [hS, u32_or_nat X Y (by omega) (by omega), u32_and_nat X Y (by omega) (by omega), u32_andNot_nat _ S (by omega) (by omega), u32_or_nat _ _ (by omega) (by omega)]
  unfold addC32
  omega

end Go.Proofs.YtejdolfgejlckaaDoor
