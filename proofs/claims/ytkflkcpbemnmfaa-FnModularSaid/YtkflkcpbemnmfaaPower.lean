/- Contracts of the laws' helpers times, plus and power: a product and a sum modulo m, and a power modulo m. -/
import Derived.Test.YtkflkcpbemnmfaaWalkDiv
import Derived.Test.YtkflkcpbemnmfaaLen
import Derived.Test.YtkflkcpbemnmfaaLaw
namespace Go.Proofs.Ytkflkcpbemnmfaa
open Go.RowKit
set_option linter.unusedVariables false
theorem div_join (x y m : Int) : divR64 (mulH64 x y) (mulL64 x y) m = x * y % m := by
  unfold divR64 mulH64 mulL64
  congr 1
  omega
theorem mod_u64 {n m : Int} (hm : U64 m) (hm1 : 1 ≤ m) : U64 (n % m) := by
  have h1 := Int.emod_nonneg n (show m ≠ 0 by omega)
  have h2 := Int.emod_lt_of_pos n (show 0 < m by omega)
  unfold U64 at *
  omega
theorem laws_times (x y m : Int) (hx : U64 x) (hy : U64 y) (hm : U64 m) (hm1 : 1 ≤ m) (w : World) :
    Calls Try.prog 37 #[.int .u64 x, .int .u64 y, .int .u64 m] w fun e w' => e = .returned (.int .u64 (x * y % m)) ∧ Below w.heap.size w w' := by
  have uh := U64_mulH hx hy
  have ul := U64_mulL x y
  have hj := div_join x y m
  have HJ := hide hj
  clear hj
  go_enter Try.func37, Try.ntmps37
  go_wp2_with (first | (go_at_call 28; ((with_reducible refine (impl_Mul64 _ _ hx hy _).mono ?_); rintro e w1 ⟨rfl, rfl⟩)) | (go_at_call 40; ((with_reducible refine (impl_Rem64 _ _ _ uh ul hm hm1 _).mono ?_); rintro e w1 ⟨rfl, hb⟩)))
  go_ret
  exact ⟨ret1 HJ.out, hb⟩
def tmN (a b M : Nat) : Nat := a * b % M
theorem tmN_lt (a b M : Nat) (hM : 0 < M) : tmN a b M < M := Nat.mod_lt _ hM
theorem laws_timesN (a b M : Nat) (ha : a < 18446744073709551616) (hb : b < 18446744073709551616) (hM : M < 18446744073709551616) (hM1 : 1 ≤ M) (w : World) :
    Calls Try.prog 37 #[.int .u64 a, .int .u64 b, .int .u64 M] w fun e w' => e = .returned (.int .u64 (tmN a b M : Nat)) ∧ Below w.heap.size w w' := by
  have h := laws_times a b M (by unfold U64; omega) (by unfold U64; omega) (by unfold U64; omega) (by omega) w
  have e : (a : Int) * b % M = ((tmN a b M : Nat) : Int) := by unfold tmN; rw [Int.natCast_emod, Int.natCast_mul]
  rw [e] at h
  exact h
def pmN (a b M : Nat) : Nat := (a + b) % M
theorem pmN_lt (a b M : Nat) (hM : 0 < M) : pmN a b M < M := Nat.mod_lt _ hM
theorem sum_join (x y m : Int) : divR64 (addC64 x y 0) (addS64 x y 0) m = (x + y) % m := by
  unfold divR64 addC64 addS64
  congr 1
  omega
theorem laws_plus (x y m : Int) (hx : U64 x) (hy : U64 y) (hm : U64 m) (hm1 : 1 ≤ m) (w : World) :
    Calls Try.prog 39 #[.int .u64 x, .int .u64 y, .int .u64 m] w fun e w' => e = .returned (.int .u64 ((x + y) % m)) ∧ Below w.heap.size w w' := by
  have uh := U64_of_B1 (B1_addC64 hx hy B1_0)
  have ul := U64_addS x y 0
  have HJ := hide (sum_join x y m)
  go_enter Try.func39, Try.ntmps39
  go_wp2_with (first | (go_at_call 24; ((with_reducible refine (impl_Add64 _ _ _ hx hy B1_0 _).mono ?_); rintro e w1 ⟨rfl, rfl⟩)) | (go_at_call 40; ((with_reducible refine (impl_Rem64 _ _ _ uh ul hm hm1 _).mono ?_); rintro e w1 ⟨rfl, hb⟩)))
  go_ret
  exact ⟨ret1 HJ.out, hb⟩
theorem laws_plusN (a b M : Nat) (ha : a < 18446744073709551616) (hb : b < 18446744073709551616) (hM : M < 18446744073709551616) (hM1 : 1 ≤ M) (w : World) :
    Calls Try.prog 39 #[.int .u64 a, .int .u64 b, .int .u64 M] w fun e w' => e = .returned (.int .u64 (pmN a b M : Nat)) ∧ Below w.heap.size w w' := by
  have h := laws_plus a b M (by unfold U64; omega) (by unfold U64; omega) (by unfold U64; omega) (by omega) w
  have e : ((a : Int) + b) % M = ((pmN a b M : Nat) : Int) := by unfold pmN; rw [Int.natCast_emod, Int.natCast_add]
  rw [e] at h
  exact h
end Go.Proofs.Ytkflkcpbemnmfaa
