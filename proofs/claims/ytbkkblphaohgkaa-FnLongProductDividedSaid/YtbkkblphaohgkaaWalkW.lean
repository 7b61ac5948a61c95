/- Contracts of the functions of math/bits on words, and of the thin package over them, for all arguments (a carry or borrow of 0 or 1): each returns what the plain functions of the text on words give; the world is as it was. -/
import Derived.Test.YtbkkblphaohgkaaChecked
import Derived.WalkKit
import Derived.WalkLawsBesides
import Derived.Test.YtbkkblphaohgkaaCarry
namespace Go.Proofs.Ytbkkblphaohgkaa
open Go.RowKit

theorem hide {p : Prop} (h : p) : Hid p := h
theorem u64wrap (n : Int) : IntKind.u64.wrap n = n % 18446744073709551616 := IntKind.wrap_u64 n
theorem ret2 {k l : IntKind} {a b c d : Int} (h : a = c) (h' : b = d) : Ending.returned (.tuple #[.int k a, .int l b]) = .returned (.tuple #[.int k c, .int l d]) := by rw [h, h']
theorem ret1 {k : IntKind} {a b : Int} (h : a = b) : Ending.returned (.int k a) = .returned (.int k b) := by rw [h]
theorem u32wrap (n : Int) : IntKind.u32.wrap n = n % 4294967296 := IntKind.wrap_u32' n

theorem run_Add64 (x y c : Int) (hx : U64 x) (hy : U64 y) (hc : B1 c) (w : World) :
    (callFunc 29 #[.int .u64 x, .int .u64 y, .int .u64 c]).run Try.prog w = .ok (.value (.tuple #[.int .u64 (addS64 x y c), .int .u64 (addC64 x y c)])) w := by
  rw [run_callFunc_extern Try.func29 (by kernel_rfl) (by kernel_rfl) (by kernel_rfl) (e := add64Entry) (by kernel_rfl), run_add64 x y c hx.1 hy.1 hc.1 hc.2]
  rfl
def sub64Entry : Array Value → Sem Value := fun args => do
  let (x, y, b) ← Extern.MathBitsCarry.three "Sub64" args
  pure (Extern.MathBitsCarry.pair ((x + Extern.MathBitsCarry.m64 - y - b) % Extern.MathBitsCarry.m64) (if x < y + b then 1 else 0))
theorem run_sub64 {P : Program} (x y b : Nat) (hb : b ≤ 1) (w : World) :
    (sub64Entry #[.int .u64 x, .int .u64 y, .int .u64 b]).run P w =
      .ok (.tuple #[.int .u64 (((x + 18446744073709551616 - y - b) % 18446744073709551616 : Nat) : Int), .int .u64 ((if x < y + b then 1 else 0 : Nat) : Int)]) w := by
  have : b = 0 ∨ b = 1 := by omega
  rcases this with rfl | rfl <;> rfl
theorem run_Sub64 (x y c : Int) (hx : U64 x) (hy : U64 y) (hc : B1 c) (w : World) :
    (callFunc 28 #[.int .u64 x, .int .u64 y, .int .u64 c]).run Try.prog w = .ok (.value (.tuple #[.int .u64 (subD64 x y c), .int .u64 (subB64 x y c)])) w := by
  obtain ⟨hx0, hx1⟩ := hx
  obtain ⟨hy0, hy1⟩ := hy
  obtain ⟨hc0, hc1⟩ := hc
  obtain ⟨x, rfl⟩ := Int.eq_ofNat_of_zero_le hx0
  obtain ⟨y, rfl⟩ := Int.eq_ofNat_of_zero_le hy0
  obtain ⟨c, rfl⟩ := Int.eq_ofNat_of_zero_le hc0
  rw [run_callFunc_extern Try.func28 (by kernel_rfl) (by kernel_rfl) (by kernel_rfl) (e := sub64Entry) (by kernel_rfl), run_sub64 x y c (by omega)]
  have e1 : (((x + 18446744073709551616 - y - c) % 18446744073709551616 : Nat) : Int) = subD64 x y c := by unfold subD64; omega
  have e2 : ((if x < y + c then 1 else 0 : Nat) : Int) = subB64 x y c := by
    unfold subB64
    by_cases h : x < y + c
    · rw [if_pos h, if_pos (by omega)]; rfl
    · rw [if_neg h, if_neg (by omega)]; rfl
  rw [e1, e2]
  rfl
theorem impl_Add64 (x y c : Int) (hx : U64 x) (hy : U64 y) (hc : B1 c) (w : World) :
    Calls Try.prog 25 #[.int .u64 x, .int .u64 y, .int .u64 c] w fun e w' => e = .returned (.tuple #[.int .u64 (addS64 x y c), .int .u64 (addC64 x y c)]) ∧ w = w' := by
  have h := run_Add64 x y c hx hy hc
  clear hx hy hc
  go_enter Try.func25, Try.ntmps25
  go_wp2
  go_ret2
  exact ⟨rfl, rfl⟩
theorem impl_Sub64 (x y c : Int) (hx : U64 x) (hy : U64 y) (hc : B1 c) (w : World) :
    Calls Try.prog 21 #[.int .u64 x, .int .u64 y, .int .u64 c] w fun e w' => e = .returned (.tuple #[.int .u64 (subD64 x y c), .int .u64 (subB64 x y c)]) ∧ w = w' := by
  have h := run_Sub64 x y c hx hy hc
  clear hx hy hc
  go_enter Try.func21, Try.ntmps21
  go_wp2
  go_ret2
  exact ⟨rfl, rfl⟩
theorem bits_Mul64 (x y : Int) (hx : U64 x) (hy : U64 y) (w : World) :
    Calls Try.prog 30 #[.int .u64 x, .int .u64 y] w fun e w' => e = .returned (.tuple #[.int .u64 (mulH64 x y), .int .u64 (mulL64 x y)]) ∧ w = w' := by
  obtain ⟨hx0, hx1⟩ := hx
  obtain ⟨hy0, hy1⟩ := hy
  go_enter Try.func30, Try.ntmps30
  go_wp2
  go_ret2
  refine ⟨ret2 ?_ rfl, rfl⟩
  simp only [u64wrap, and_low32 x hx0 hx1, and_low32 y hy0 hy1]
  rw [and_low32 _ (Int.emod_nonneg _ (by omega)) (Int.emod_lt_of_pos _ (by omega))]
  exact mul64_arith x y hx0 hx1 hy0 hy1
theorem impl_Mul64 (x y : Int) (hx : U64 x) (hy : U64 y) (w : World) :
    Calls Try.prog 26 #[.int .u64 x, .int .u64 y] w fun e w' => e = .returned (.tuple #[.int .u64 (mulH64 x y), .int .u64 (mulL64 x y)]) ∧ w = w' := by
  go_enter Try.func26, Try.ntmps26
  go_wp2_with (first | (go_at_call 30; refine (bits_Mul64 x y hx hy _).mono ?_; rintro e w' ⟨rfl, rfl⟩) | go_in)
  go_ret2
  exact ⟨rfl, rfl⟩
end Go.Proofs.Ytbkkblphaohgkaa
