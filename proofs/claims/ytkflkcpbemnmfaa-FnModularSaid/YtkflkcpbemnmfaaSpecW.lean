/- The reference's Sum, Difference, Product, Quotient and Remainder at 64 and at 32 bits, in the words of the plain text on words. -/
import Derived.Test.YtkflkcpbemnmfaaSpec5
namespace Go.Proofs.Ytkflkcpbemnmfaa
open Go.RowKit
set_option linter.unusedVariables false
theorem bitI_N (c : Bool) : bitI c = ((bitN c : Nat) : Int) := by cases c <;> rfl

theorem sum64 (x y : Int) (c : Bool) (hx : U64 x) (hy : U64 y) (w : World) :
    Calls Try.prog 21 #[.int .i64 64, .int .u64 x, .int .u64 y, .int .u64 (bitI c)] w fun e w' => e = .returned (.tuple #[.int .u64 (addS64 x y (bitI c)), .int .u64 (addC64 x y (bitI c))]) ∧ Below w.heap.size w w' := by
  obtain ⟨hx0, hx1⟩ := hx
  obtain ⟨hy0, hy1⟩ := hy
  obtain ⟨X, rfl⟩ := Int.eq_ofNat_of_zero_le hx0
  obtain ⟨Y, rfl⟩ := Int.eq_ofNat_of_zero_le hy0
  have e : (2 : Nat) ^ 64 = 18446744073709551616 := by decide
  have h := spec_Sum 64 X Y c w (by omega) (by omega) (by omega)
  rw [e] at h
  have e1 : (((X + Y + bitN c) % 18446744073709551616 : Nat) : Int) = addS64 X Y (bitI c) := by rw [bitI_N]; unfold addS64; omega
  have e2 : (((X + Y + bitN c) / 18446744073709551616 : Nat) : Int) = addC64 X Y (bitI c) := by rw [bitI_N]; unfold addC64; omega
  rw [e1, e2] at h
  exact h
theorem difference64 (x y : Int) (c : Bool) (hx : U64 x) (hy : U64 y) (w : World) :
    Calls Try.prog 23 #[.int .i64 64, .int .u64 x, .int .u64 y, .int .u64 (bitI c)] w fun e w' => e = .returned (.tuple #[.int .u64 (subD64 x y (bitI c)), .int .u64 (subB64 x y (bitI c))]) ∧ Below w.heap.size w w' := by
  obtain ⟨hx0, hx1⟩ := hx
  obtain ⟨hy0, hy1⟩ := hy
  obtain ⟨X, rfl⟩ := Int.eq_ofNat_of_zero_le hx0
  obtain ⟨Y, rfl⟩ := Int.eq_ofNat_of_zero_le hy0
  have e : (2 : Nat) ^ 64 = 18446744073709551616 := by decide
  have hb := bitN_le c
  have h := spec_Difference 64 X Y c w (by omega) (by omega) (by omega) (by omega)
  rw [e] at h
  have e1 : ((X + borN X Y (bitN c) * 18446744073709551616 - (Y + bitN c) : Nat) : Int) = subD64 X Y (bitI c) := by
    rw [bitI_N]
    unfold subD64 borN
    split <;> omega
  have e2 : ((borN X Y (bitN c) : Nat) : Int) = subB64 X Y (bitI c) := by
    rw [bitI_N]
    unfold subB64 borN
    by_cases hlt : X < Y + bitN c
    · rw [if_pos hlt, if_pos (by omega)]; rfl
    · rw [if_neg hlt, if_neg (by omega)]; rfl
  rw [e1, e2] at h
  exact h
theorem product64 (x y : Int) (hx : U64 x) (hy : U64 y) (w : World) :
    Calls Try.prog 16 #[.int .i64 64, .int .u64 x, .int .u64 y] w fun e w' => e = .returned (.tuple #[.int .u64 (mulH64 x y), .int .u64 (mulL64 x y)]) ∧ Below w.heap.size w w' := by
  obtain ⟨hx0, hx1⟩ := hx
  obtain ⟨hy0, hy1⟩ := hy
  obtain ⟨X, rfl⟩ := Int.eq_ofNat_of_zero_le hx0
  obtain ⟨Y, rfl⟩ := Int.eq_ofNat_of_zero_le hy0
  have e : (2 : Nat) ^ 64 = 18446744073709551616 := by decide
  have h := spec_Product 64 X Y w (by omega) (by omega) (by omega) (by omega)
  rw [e] at h
  have e1 : ((X * Y / 18446744073709551616 : Nat) : Int) = mulH64 X Y := by unfold mulH64; rw [← Int.natCast_mul]; omega
  have e2 : ((X * Y % 18446744073709551616 : Nat) : Int) = mulL64 X Y := by unfold mulL64; rw [← Int.natCast_mul]; omega
  rw [e1, e2] at h
  exact h
theorem div_nat64 (H L D : Nat) : (((L + 18446744073709551616 * H) / D : Nat) : Int) = divQ64 H L D ∧ (((L + 18446744073709551616 * H) % D : Nat) : Int) = divR64 H L D := by
  unfold divQ64 divR64
  have e : ((H : Int) * 18446744073709551616 + L) = ((L + 18446744073709551616 * H : Nat) : Int) := by omega
  rw [e]
  exact ⟨Int.natCast_ediv _ _, Int.natCast_emod _ _⟩
theorem remainder64 (hi lo y : Int) (hh : U64 hi) (hl : U64 lo) (hy : U64 y) (hy1 : 1 ≤ y) (w : World) :
    Calls Try.prog 18 #[.int .i64 64, .int .u64 hi, .int .u64 lo, .int .u64 y] w fun e w' => e = .returned (.tuple #[.int .u64 (divR64 hi lo y), .bool true]) ∧ Below w.heap.size w w' := by
  obtain ⟨hh0, hh1⟩ := hh
  obtain ⟨hl0, hl1⟩ := hl
  obtain ⟨hy0, hy2⟩ := hy
  obtain ⟨H, rfl⟩ := Int.eq_ofNat_of_zero_le hh0
  obtain ⟨L, rfl⟩ := Int.eq_ofNat_of_zero_le hl0
  obtain ⟨D, rfl⟩ := Int.eq_ofNat_of_zero_le hy0
  have e : (2 : Nat) ^ 64 = 18446744073709551616 := by decide
  have h := spec_Remainder 64 H L D w (by omega) (by omega) (by omega) (by omega) (by omega)
  rw [e, (div_nat64 H L D).2] at h
  exact h
theorem quotient64 (hi lo y : Int) (hh : U64 hi) (hl : U64 lo) (hy : U64 y) (hlt : hi < y) (w : World) :
    Calls Try.prog 27 #[.int .i64 64, .int .u64 hi, .int .u64 lo, .int .u64 y] w fun e w' => e = .returned (.tuple #[.int .u64 (divQ64 hi lo y), .int .u64 (divR64 hi lo y), .bool true]) ∧ Below w.heap.size w w' := by
  obtain ⟨hh0, hh1⟩ := hh
  obtain ⟨hl0, hl1⟩ := hl
  obtain ⟨hy0, hy2⟩ := hy
  obtain ⟨H, rfl⟩ := Int.eq_ofNat_of_zero_le hh0
  obtain ⟨L, rfl⟩ := Int.eq_ofNat_of_zero_le hl0
  obtain ⟨D, rfl⟩ := Int.eq_ofNat_of_zero_le hy0
  have e : (2 : Nat) ^ 64 = 18446744073709551616 := by decide
  have h := spec_Quotient 64 H L D w (by omega) (by omega) (by omega) (by omega) (by omega)
  rw [e, (div_nat64 H L D).1, (div_nat64 H L D).2] at h
  exact h

theorem sum32 (x y : Int) (c : Bool) (hx : U32 x) (hy : U32 y) (w : World) :
    Calls Try.prog 21 #[.int .i64 32, .int .u64 x, .int .u64 y, .int .u64 (bitI c)] w fun e w' => e = .returned (.tuple #[.int .u64 (addS32 x y (bitI c)), .int .u64 (addC32 x y (bitI c))]) ∧ Below w.heap.size w w' := by
  obtain ⟨hx0, hx1⟩ := hx
  obtain ⟨hy0, hy1⟩ := hy
  obtain ⟨X, rfl⟩ := Int.eq_ofNat_of_zero_le hx0
  obtain ⟨Y, rfl⟩ := Int.eq_ofNat_of_zero_le hy0
  have e : (2 : Nat) ^ 32 = 4294967296 := by decide
  have h := spec_Sum 32 X Y c w (by omega) (by omega) (by omega)
  rw [e] at h
  have e1 : (((X + Y + bitN c) % 4294967296 : Nat) : Int) = addS32 X Y (bitI c) := by rw [bitI_N]; unfold addS32; omega
  have e2 : (((X + Y + bitN c) / 4294967296 : Nat) : Int) = addC32 X Y (bitI c) := by rw [bitI_N]; unfold addC32; omega
  rw [e1, e2] at h
  exact h
theorem difference32 (x y : Int) (c : Bool) (hx : U32 x) (hy : U32 y) (w : World) :
    Calls Try.prog 23 #[.int .i64 32, .int .u64 x, .int .u64 y, .int .u64 (bitI c)] w fun e w' => e = .returned (.tuple #[.int .u64 (subD32 x y (bitI c)), .int .u64 (subB32 x y (bitI c))]) ∧ Below w.heap.size w w' := by
  obtain ⟨hx0, hx1⟩ := hx
  obtain ⟨hy0, hy1⟩ := hy
  obtain ⟨X, rfl⟩ := Int.eq_ofNat_of_zero_le hx0
  obtain ⟨Y, rfl⟩ := Int.eq_ofNat_of_zero_le hy0
  have e : (2 : Nat) ^ 32 = 4294967296 := by decide
  have hb := bitN_le c
  have h := spec_Difference 32 X Y c w (by omega) (by omega) (by omega) (by omega)
  rw [e] at h
  have e1 : ((X + borN X Y (bitN c) * 4294967296 - (Y + bitN c) : Nat) : Int) = subD32 X Y (bitI c) := by
    rw [bitI_N]
    unfold subD32 borN
    split <;> omega
  have e2 : ((borN X Y (bitN c) : Nat) : Int) = subB32 X Y (bitI c) := by
    rw [bitI_N]
    unfold subB32 borN
    by_cases hlt : X < Y + bitN c
    · rw [if_pos hlt, if_pos (by omega)]; rfl
    · rw [if_neg hlt, if_neg (by omega)]; rfl
  rw [e1, e2] at h
  exact h
theorem product32 (x y : Int) (hx : U32 x) (hy : U32 y) (w : World) :
    Calls Try.prog 16 #[.int .i64 32, .int .u64 x, .int .u64 y] w fun e w' => e = .returned (.tuple #[.int .u64 (mulH32 x y), .int .u64 (mulL32 x y)]) ∧ Below w.heap.size w w' := by
  obtain ⟨hx0, hx1⟩ := hx
  obtain ⟨hy0, hy1⟩ := hy
  obtain ⟨X, rfl⟩ := Int.eq_ofNat_of_zero_le hx0
  obtain ⟨Y, rfl⟩ := Int.eq_ofNat_of_zero_le hy0
  have e : (2 : Nat) ^ 32 = 4294967296 := by decide
  have h := spec_Product 32 X Y w (by omega) (by omega) (by omega) (by omega)
  rw [e] at h
  have e1 : ((X * Y / 4294967296 : Nat) : Int) = mulH32 X Y := by unfold mulH32; rw [← Int.natCast_mul]; omega
  have e2 : ((X * Y % 4294967296 : Nat) : Int) = mulL32 X Y := by unfold mulL32; rw [← Int.natCast_mul]; omega
  rw [e1, e2] at h
  exact h
theorem div_nat32 (H L D : Nat) : (((L + 4294967296 * H) / D : Nat) : Int) = divQ32 H L D ∧ (((L + 4294967296 * H) % D : Nat) : Int) = divR32 H L D := by
  unfold divQ32 divR32
  have e : ((H : Int) * 4294967296 + L) = ((L + 4294967296 * H : Nat) : Int) := by omega
  rw [e]
  exact ⟨Int.natCast_ediv _ _, Int.natCast_emod _ _⟩
theorem remainder32 (hi lo y : Int) (hh : U32 hi) (hl : U32 lo) (hy : U32 y) (hy1 : 1 ≤ y) (w : World) :
    Calls Try.prog 18 #[.int .i64 32, .int .u64 hi, .int .u64 lo, .int .u64 y] w fun e w' => e = .returned (.tuple #[.int .u64 (divR32 hi lo y), .bool true]) ∧ Below w.heap.size w w' := by
  obtain ⟨hh0, hh1⟩ := hh
  obtain ⟨hl0, hl1⟩ := hl
  obtain ⟨hy0, hy2⟩ := hy
  obtain ⟨H, rfl⟩ := Int.eq_ofNat_of_zero_le hh0
  obtain ⟨L, rfl⟩ := Int.eq_ofNat_of_zero_le hl0
  obtain ⟨D, rfl⟩ := Int.eq_ofNat_of_zero_le hy0
  have e : (2 : Nat) ^ 32 = 4294967296 := by decide
  have h := spec_Remainder 32 H L D w (by omega) (by omega) (by omega) (by omega) (by omega)
  rw [e, (div_nat32 H L D).2] at h
  exact h
theorem quotient32 (hi lo y : Int) (hh : U32 hi) (hl : U32 lo) (hy : U32 y) (hlt : hi < y) (w : World) :
    Calls Try.prog 27 #[.int .i64 32, .int .u64 hi, .int .u64 lo, .int .u64 y] w fun e w' => e = .returned (.tuple #[.int .u64 (divQ32 hi lo y), .int .u64 (divR32 hi lo y), .bool true]) ∧ Below w.heap.size w w' := by
  obtain ⟨hh0, hh1⟩ := hh
  obtain ⟨hl0, hl1⟩ := hl
  obtain ⟨hy0, hy2⟩ := hy
  obtain ⟨H, rfl⟩ := Int.eq_ofNat_of_zero_le hh0
  obtain ⟨L, rfl⟩ := Int.eq_ofNat_of_zero_le hl0
  obtain ⟨D, rfl⟩ := Int.eq_ofNat_of_zero_le hy0
  have e : (2 : Nat) ^ 32 = 4294967296 := by decide
  have h := spec_Quotient 32 H L D w (by omega) (by omega) (by omega) (by omega) (by omega)
  rw [e, (div_nat32 H L D).1, (div_nat32 H L D).2] at h
  exact h

end Go.Proofs.Ytkflkcpbemnmfaa
