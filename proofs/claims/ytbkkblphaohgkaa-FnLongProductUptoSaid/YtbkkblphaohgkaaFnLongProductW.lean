/- The walk of the law FnLongProduct: out of the contracts of what it calls, it returns true; nothing that was in memory changes. -/
import Derived.Test.YtbkkblphaohgkaaLong3
namespace Go.Proofs.Ytbkkblphaohgkaa
open Go.RowKit
set_option linter.unusedVariables false
theorem lt_bitsP {N L : Nat} (h : N < MM ^ L) : N < 2 ^ (64 * L) := by rw [← MM_two]; exact h
theorem prod_ltP {A B la lb : Nat} (h : A < MM ^ la) (k : B < MM ^ lb) : A * B < MM ^ (la + lb) := by
  rw [Nat.pow_add]; exact Nat.mul_lt_mul'' h k
theorem prod_lt2 {A B la lb : Nat} (h : A < MM ^ la) (k : B < MM ^ lb) : A * B < 2 ^ (64 * la + 64 * lb) := by
  rw [← Nat.mul_add]; exact lt_bitsP (prod_ltP h k)
set_option maxRecDepth 100000 in
set_option maxHeartbeats 2000000 in
theorem walk_FnLongProduct (AA : Option Addr) (ca A la : Nat) (AB : Option Addr) (cb B lb : Nat) (w : World) (hA : Wds w AA A la) (hAl : A < MM ^ la) (hla : la ≤ 1048576) (hB : Wds w AB B lb) (hBl : B < MM ^ lb) (hlb : lb ≤ 1048576) :
    Calls Try.prog 6 #[.slice AA la ca, .slice AB lb cb] w fun e w' => e = .returned (.bool true) ∧ Below w.heap.size w w' := by
  have HA := hide hA
  have HB := hide hB
  have HAl := hide hAl
  have HBl := hide hBl
  clear hA hB hAl hBl
  go_enter Try.func6, Try.ntmps6
  go_wp2_with fail
  with_reducible refine (laws_longProduct AA AB ca cb A B la lb w HA.out HB.out HAl.out HBl.out (by omega)).mono ?_
  rintro e w1 ⟨A1, c1, rfl, hc1, R1, B1⟩
  go_wp2_with fail
  with_reducible refine (spec_Words A1 c1 (A * B) (la + lb) w1 R1.bits (prod_ltP HAl.out HBl.out) (by omega)).mono ?_
  rintro e w2 ⟨A2, c2, rfl, hc2, R2, B2⟩
  go_wp2_with fail
  with_reducible refine (spec_Words AA ca A la w2 ((HA.out.below B1).below B2) HAl.out (by omega)).mono ?_
  rintro e w3 ⟨A3, c3, rfl, hc3, R3, B3⟩
  go_wp2_with fail
  with_reducible refine (spec_Words AB cb B lb w3 (((HB.out.below B1).below B2).below B3) HBl.out (by omega)).mono ?_
  rintro e w4 ⟨A4, c4, rfl, hc4, R4, B4⟩
  go_wp2_with fail
  with_reducible refine (spec_Times A3 A4 c3 c4 A B (64 * la) (64 * lb) w4 (R3.bits.below B4) R4.bits (lt_bitsP HAl.out) (lt_bitsP HBl.out) (by omega) (by omega)).mono ?_
  rintro e w5 ⟨A5, c5, rfl, hc5, R5, B5⟩
  go_wp2_with fail
  with_reducible refine (spec_Equal A2 A5 c2 c5 _ _ (64 * (la + lb)) (64 * la + 64 * lb) w5 (((R2.bits.below B3).below B4).below B5) R5.bits (lt_bitsP (prod_ltP HAl.out HBl.out)) (prod_lt2 HAl.out HBl.out) (by omega) (by omega) rfl).mono ?_
  rintro e w6 ⟨rfl, rfl⟩
  go_wp2_with fail
  go_ret
  exact ⟨rfl, bt (bt (bt (bt B1 B2) B3) B4) B5⟩
end Go.Proofs.Ytbkkblphaohgkaa
