/- Contracts of the functions of math/bits on words, and of the thin package over them, for all arguments (a carry or borrow of 0 or 1): each returns what the plain functions of the text on words give; the world is as it was. -/
import Derived.Test.YtejdolfgejlckaaDoorChecked
import Derived.WalkKit
import Derived.WalkLawsBesides
import Derived.Test.YtejdolfgejlckaaDoorCarry
namespace Go.Proofs.YtejdolfgejlckaaDoor
open Go.RowKit

theorem hide {p : Prop} (h : p) : Hid p := h
theorem u64wrap (n : Int) : IntKind.u64.wrap n = n % 18446744073709551616 := IntKind.wrap_u64 n
theorem ret2 {k l : IntKind} {a b c d : Int} (h : a = c) (h' : b = d) : Ending.returned (.tuple #[.int k a, .int l b]) = .returned (.tuple #[.int k c, .int l d]) := by rw [h, h']
theorem ret1 {k : IntKind} {a b : Int} (h : a = b) : Ending.returned (.int k a) = .returned (.int k b) := by rw [h]
theorem u32wrap (n : Int) : IntKind.u32.wrap n = n % 4294967296 := IntKind.wrap_u32' n

def sub64Entry : Array Value → Sem Value := fun args => do
  let (x, y, b) ← Extern.MathBitsCarry.three "Sub64" args
  pure (Extern.MathBitsCarry.pair ((x + Extern.MathBitsCarry.m64 - y - b) % Extern.MathBitsCarry.m64) (if x < y + b then 1 else 0))
theorem run_sub64 {P : Program} (x y b : Nat) (hb : b ≤ 1) (w : World) :
    (sub64Entry #[.int .u64 x, .int .u64 y, .int .u64 b]).run P w =
      .ok (.tuple #[.int .u64 (((x + 18446744073709551616 - y - b) % 18446744073709551616 : Nat) : Int), .int .u64 ((if x < y + b then 1 else 0 : Nat) : Int)]) w := by
  have : b = 0 ∨ b = 1 := by omega
  rcases this with rfl | rfl <;> rfl
theorem run_Sub64 (x y c : Int) (hx : U64 x) (hy : U64 y) (hc : B1 c) (w : World) :
    (callFunc 8 #[.int .u64 x, .int .u64 y, .int .u64 c]).run Tryd.prog w = .ok (.value (.tuple #[.int .u64 (subD64 x y c), .int .u64 (subB64 x y c)])) w := by
  obtain ⟨hx0, hx1⟩ := hx
  obtain ⟨hy0, hy1⟩ := hy
  obtain ⟨hc0, hc1⟩ := hc
  obtain ⟨x, rfl⟩ := Int.eq_ofNat_of_zero_le hx0
  obtain ⟨y, rfl⟩ := Int.eq_ofNat_of_zero_le hy0
  obtain ⟨c, rfl⟩ := Int.eq_ofNat_of_zero_le hc0
  rw [run_callFunc_extern Tryd.func8 (by kernel_rfl) (by kernel_rfl) (by kernel_rfl) (e := sub64Entry) (by kernel_rfl), run_sub64 x y c (by omega)]
  have e1 : (((x + 18446744073709551616 - y - c) % 18446744073709551616 : Nat) : Int) = subD64 x y c := by unfold subD64; omega
  have e2 : ((if x < y + c then 1 else 0 : Nat) : Int) = subB64 x y c := by
    unfold subB64
    by_cases h : x < y + c
    · rw [if_pos h, if_pos (by omega)]; rfl
    · rw [if_neg h, if_neg (by omega)]; rfl
  rw [e1, e2]
  rfl
theorem impl_Sub64 (x y c : Int) (hx : U64 x) (hy : U64 y) (hc : B1 c) (w : World) :
    Calls Tryd.prog 6 #[.int .u64 x, .int .u64 y, .int .u64 c] w fun e w' => e = .returned (.tuple #[.int .u64 (subD64 x y c), .int .u64 (subB64 x y c)]) ∧ w = w' := by
  have h := run_Sub64 x y c hx hy hc
  clear hx hy hc
  go_enter Tryd.func6, Tryd.ntmps6
  go_wp2
  go_ret2
  exact ⟨rfl, rfl⟩
end Go.Proofs.YtejdolfgejlckaaDoor
