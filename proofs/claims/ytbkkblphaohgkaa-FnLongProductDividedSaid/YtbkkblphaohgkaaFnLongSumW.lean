/- The walk of the law FnLongSum: out of the contracts of what it calls, it returns true; nothing that was in memory changes. -/
import Derived.Test.YtbkkblphaohgkaaLong2
namespace Go.Proofs.Ytbkkblphaohgkaa
open Go.RowKit
set_option linter.unusedVariables false
theorem bitI_nat (c : Bool) : bitI c = ((bitN c : Nat) : Int) := by cases c <;> rfl
theorem lt_bits {N L : Nat} (h : N < MM ^ L) : N < 2 ^ (64 * L) := by rw [← MM_two]; exact h
set_option maxRecDepth 100000 in
set_option maxHeartbeats 2000000 in
theorem walk_FnLongSum (AA : Option Addr) (ca A la : Nat) (AB : Option Addr) (cb B lb : Nat) (cy : Bool) (w : World) (hA : Wds w AA A la) (hAl : A < MM ^ la) (hla : la ≤ 1048576) (hB : Wds w AB B lb) (hBl : B < MM ^ lb) (hlb : lb ≤ 1048576) :
    Calls Try.prog 4 #[.slice AA la ca, .slice AB lb cb, .bool cy] w fun e w' => e = .returned (.bool true) ∧ Below w.heap.size w w' := by
  have hcy := bitN_le cy
  have hbI := bitI_nat cy
  have HA := hide hA
  have HB := hide hB
  have HAl := hide hAl
  have HBl := hide hBl
  clear hA hB hAl hBl
  go_enter Try.func4, Try.ntmps4
  go_wp2_with (go_at_call 10; ((with_reducible refine (laws_bit _ _).mono ?_); rintro e w1 ⟨rfl, rfl⟩))
  with_reducible refine (laws_longSum AA AB ca cb A B (bitN cy) la lb w HA.out HB.out HAl.out HBl.out hcy (by omega) (by omega)).mono ?_
  rintro e w1 ⟨A1, c1, rfl, hc1, R1, B1⟩
  have hS : A + B + bitN cy < MM ^ (max la lb + 1) := by
    refine sum_lt (Nat.lt_of_lt_of_le HAl.out (Nat.pow_le_pow_right (by decide) (Nat.le_max_left _ _))) (Nat.lt_of_lt_of_le HBl.out (Nat.pow_le_pow_right (by decide) (Nat.le_max_right _ _))) hcy
  have HS := hide hS
  clear hS
  go_wp2_with fail
  with_reducible refine (spec_Words A1 c1 (A + B + bitN cy) (max la lb + 1) w1 R1.bits HS.out (by omega)).mono ?_
  rintro e w2 ⟨A2, c2, rfl, hc2, R2, B2⟩
  go_wp2_with fail
  with_reducible refine (spec_Words AA ca A la w2 ((HA.out.below B1).below B2) HAl.out (by omega)).mono ?_
  rintro e w3 ⟨A3, c3, rfl, hc3, R3, B3⟩
  go_wp2_with fail
  with_reducible refine (spec_Words AB cb B lb w3 (((HB.out.below B1).below B2).below B3) HBl.out (by omega)).mono ?_
  rintro e w4 ⟨A4, c4, rfl, hc4, R4, B4⟩
  go_wp2_with fail
  have hP := spec_Plus A3 A4 c3 c4 A B (64 * la) (64 * lb) cy w4 (R3.bits.below B4) R4.bits (lt_bits HAl.out) (lt_bits HBl.out) (by omega) (by omega)
  have hpl := plus_lt (lt_bits HAl.out) (lt_bits HBl.out) hcy
  rw [show max (64 * la) (64 * lb) = 64 * max la lb by omega] at hP hpl
  have HPL := hide hpl
  clear hpl
  with_reducible refine hP.mono ?_
  rintro e w5 ⟨A5, c5, rfl, hc5, R5, B5⟩
  clear hP
  go_wp2_with fail
  with_reducible refine (spec_Equal A2 A5 c2 c5 _ _ (64 * (max la lb + 1)) (64 * max la lb + 1) w5 (((R2.bits.below B3).below B4).below B5) R5.bits (lt_bits HS.out) HPL.out (by omega) (by omega) rfl).mono ?_
  rintro e w6 ⟨rfl, rfl⟩
  go_wp2_with fail
  go_ret
  exact ⟨rfl, bt (bt (bt (bt B1 B2) B3) B4) B5⟩
end Go.Proofs.Ytbkkblphaohgkaa
