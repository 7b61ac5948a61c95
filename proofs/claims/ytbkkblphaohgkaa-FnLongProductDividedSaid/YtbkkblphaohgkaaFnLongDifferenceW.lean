/- The walk of the law FnLongDifference: out of the contracts of what it calls, it returns true; nothing that was in memory changes. -/
import Derived.Test.YtbkkblphaohgkaaFnLongSumW
import Derived.Deep.RegionHeld3
namespace Go.Proofs.Ytbkkblphaohgkaa
open Go.RowKit
set_option linter.unusedVariables false
theorem diff_back {A B C m : Nat} (hA : A < MM ^ m) (hB : B < MM ^ m) (hC : C ≤ 1) :
    A + MM ^ m * borW A B C - (B + C) < MM ^ m ∧ ((A + MM ^ m * borW A B C - (B + C)) + B + C) % MM ^ m = A := by
  have hb : borW A B C = 0 ∧ B + C ≤ A ∨ borW A B C = 1 ∧ A < B + C := by
    unfold borW
    by_cases h : A < B + C
    · rw [if_pos h]; exact .inr ⟨rfl, h⟩
    · rw [if_neg h]; exact .inl ⟨rfl, by omega⟩
  rcases hb with ⟨h, h'⟩ | ⟨h, h'⟩ <;> rw [h]
  · rw [Nat.mul_zero, Nat.add_zero]
    refine ⟨by omega, ?_⟩
    rw [show A - (B + C) + B + C = A by omega, Nat.mod_eq_of_lt hA]
  · rw [Nat.mul_one]
    refine ⟨by omega, ?_⟩
    rw [show A + MM ^ m - (B + C) + B + C = A + MM ^ m by omega, Nat.add_mod_right, Nat.mod_eq_of_lt hA]
theorem Bits.drew {w : World} {A : Option Addr} {N L : Nat} (h : Bits w A N L) : Bits w.drew A N L := h
theorem Wds.drew {w : World} {A : Option Addr} {N L : Nat} (h : Wds w A N L) : Wds w.drew A N L := h
theorem borW_le (A B C : Nat) : borW A B C ≤ 1 := by unfold borW; split <;> omega
set_option maxRecDepth 100000 in
set_option maxHeartbeats 4000000 in
theorem walk_FnLongDifference (AA : Option Addr) (ca A la : Nat) (AB : Option Addr) (cb B lb : Nat) (cy : Bool) (w : World) (hA : Wds w AA A la) (hAl : A < MM ^ la) (hla : la ≤ 1048576) (hB : Wds w AB B lb) (hBl : B < MM ^ lb) (hlb : lb ≤ 1048576) :
    Calls Try.prog 3 #[.slice AA la ca, .slice AB lb cb, .bool cy] w fun e w' => e = .returned (.bool true) ∧ Below w.heap.size w w' := by
  have hcy := bitN_le cy
  have hbI := bitI_nat cy
  obtain ⟨m, hm⟩ : ∃ m, m = max la lb := ⟨_, rfl⟩
  have HAm : Hid (A < MM ^ m) := Nat.lt_of_lt_of_le hAl (Nat.pow_le_pow_right (by decide) (by omega))
  have HBm : Hid (B < MM ^ m) := Nat.lt_of_lt_of_le hBl (Nat.pow_le_pow_right (by decide) (by omega))
  have hdb := diff_back (C := bitN cy) HAm.out HBm.out hcy
  have HD1 := hide hdb.1
  have HD2 := hide hdb.2
  have hbw := borW_le A B (bitN cy)
  have hDf := hide (fun W h1 h2 => laws_longDifference AA AB ca cb A B (bitN cy) la lb W h1 h2 hAl hBl hcy (by omega) (by omega))
  rw [← hm] at hDf
  have HM1 : Hid (max (64 * m) (64 * lb) = 64 * m) := by unfold Hid; omega
  have hml : m ≤ 1048576 := by omega
  have hlbm : lb ≤ m := by omega
  have Hm := hide hm
  have HA := hide hA
  have HB := hide hB
  have HAl := hide hAl
  have HBl := hide hBl
  clear hA hB hAl hBl hdb hm
  generalize hDe : A + MM ^ m * borW A B (bitN cy) - (B + bitN cy) = D at *
  have HDe := hide hDe
  clear hDe
  have hbor : borW A B (bitN cy) = 1 ∧ A < B + bitN cy ∨ borW A B (bitN cy) = 0 ∧ B + bitN cy ≤ A := by
    unfold borW
    by_cases h : A < B + bitN cy
    · rw [if_pos h]; exact .inl ⟨rfl, h⟩
    · rw [if_neg h]; exact .inr ⟨rfl, by omega⟩
  generalize hO : borW A B (bitN cy) = O at *
  have HO := hide hO
  clear hO
  have Hbor := hide hbor
  clear hbor
  go_enter Try.func3, Try.ntmps3
  go_wp2_with (go_at_call 10; ((with_reducible refine (laws_bit _ _).mono ?_); rintro e w1 ⟨rfl, rfl⟩))
  with_reducible refine (hDf.out w HA.out HB.out).mono ?_
  rintro e w1 ⟨A1, c1, rfl, hc1, R1, B1⟩
  go_wp2_with fail
  with_reducible refine (spec_Words A1 c1 D m w1 R1.bits HD1.out (by omega)).mono ?_
  rintro e w2 ⟨A2, c2, rfl, hc2, R2, B2⟩
  go_wp2_with fail
  with_reducible refine (spec_Words AB cb B lb w2 ((HB.out.below B1).below B2) HBl.out (by omega)).mono ?_
  rintro e w3 ⟨A3, c3, rfl, hc3, R3, B3⟩
  go_wp2_with fail
  have hP := spec_Plus A2 A3 c2 c3 D B (64 * m) (64 * lb) cy w3 (R2.bits.below B3) R3.bits (lt_bits HD1.out) (lt_bits HBl.out) (by omega) (by omega)
  rw [HM1.out] at hP
  with_reducible refine hP.mono ?_
  rintro e w4 ⟨A4, c4, rfl, hc4, R4, B4⟩
  clear hP
  have hbb := hide (bt (bt (bt B1 B2) B3) B4)
  have HR4 := hide R4.bits
  have HAw := hide ((((HA.out.below B1).below B2).below B3).below B4)
  have HBw := hide ((((HB.out.below B1).below B2).below B3).below B4)
  clear R1 R2 R3 R4 B1 B2 B3 B4 hc1 hc2 hc3
  go_wp2_with fail
  with_reducible refine (spec_Words AA ca A la w4 HAw.out HAl.out (by omega)).mono ?_
  rintro e w5 ⟨A5, c5, rfl, hc5, R5, B5⟩
  go_wp2_with fail
  with_reducible refine (spec_Words AB cb B lb w5 (HBw.out.below B5) HBl.out (by omega)).mono ?_
  rintro e w6 ⟨A6, c6, rfl, hc6, R6, B6⟩
  go_wp2_with fail
  have hP := spec_Plus A6 none c6 0 B 0 (64 * lb) 0 cy w6 R6.bits (Bits.none_ _ _ _) (lt_bits HBl.out) (by simp) (by omega) (by omega)
  rw [Nat.max_eq_left (Nat.zero_le _), Nat.add_zero] at hP
  with_reducible refine hP.mono ?_
  rintro e w7 ⟨A7, c7, rfl, hc7, R7, B7⟩
  clear hP
  go_wp2_with fail
  have hBc : B + bitN cy < 2 ^ (64 * lb + 1) := by have := lt_bits HBl.out; rw [Nat.pow_succ]; omega
  with_reducible refine (spec_Compare A5 A7 c5 c7 A (B + bitN cy) (64 * la) (64 * lb + 1) w7 ((R5.bits.below B6).below B7) R7.bits (lt_bits HAl.out) hBc (by omega) (by omega)).mono ?_
  rintro e w8 ⟨rfl, rfl⟩
  have hb7 := hide (bt (bt B5 B6) B7)
  have hbb7 := hide (bt hbb.out hb7.out)
  have HR4' := hide (HR4.out.below hb7.out)
  have HAw' := hide (HAw.out.below hb7.out)
  clear R5 R6 R7 B5 B6 B7 hc5 hc6 hc7 HAw HBw HR4 hBc
  have hle : 64 * m ≤ c4 := by omega
  have hle1 : (0 : Int) ≤ 64 * (m : Int) := by omega
  have hle2 : 64 * (m : Int) ≤ (c4 : Int) := by omega
  have htn : (64 * (m : Int)).toNat = 64 * m := by omega
  have hbk : Hid (Bits w7 A4 A (64 * m)) := by
    refine (HR4'.out.take (Nat.le_succ _)).congr fun i hi => ?_
    have h2 := HD2.out
    rw [MM_two] at h2
    conv => rhs; rw [← h2]
    simp [Nat.testBit_mod_two_pow, hi]
  have hAm2 := hide (lt_bits HAm.out)
  rcases Hbor.out with ⟨hO, hlt⟩ | ⟨hO, hge⟩
  · have hcmp := cmp_lt hlt
    have hdec : decide (cmpN A (B + bitN cy) < 0) = true := by simpa using hcmp
    subst hO
    clear hlt
    go_wp2_with fail
    go_region_held3 (fun _ => True) (trivial) (first | (go_at_call 12; ((with_reducible refine (spec_Words AA ca A la _ HAw'.out.drew HAl.out (by omega)).mono ?_)); rintro e w9 ⟨A9, c9, rfl, hc9, R9, B9⟩) | (go_at_call 14; ((with_reducible refine (spec_Equal A4 A9 c4 c9 A A (64 * m) (64 * la) w9 (hbk.out.drew.below B9) R9.bits hAm2.out (lt_bits HAl.out) (by omega) (by omega) rfl).mono ?_)); rintro e w10 ⟨rfl, rfl⟩))
    all_goals go_wp2_with fail
    all_goals go_ret
    all_goals exact ⟨rfl, bt hbb7.out.drew B9⟩
  · have hcmp := cmp_ge hge
    have hdec : decide (cmpN A (B + bitN cy) < 0) = false := by simpa using hcmp
    subst hO
    clear hge
    go_wp2_with fail
    go_region_held3 (fun _ => True) (trivial) (first | (go_at_call 12; ((with_reducible refine (spec_Words AA ca A la _ HAw'.out.drew HAl.out (by omega)).mono ?_)); rintro e w9 ⟨A9, c9, rfl, hc9, R9, B9⟩) | (go_at_call 14; ((with_reducible refine (spec_Equal A4 A9 c4 c9 A A (64 * m) (64 * la) w9 (hbk.out.drew.below B9) R9.bits hAm2.out (lt_bits HAl.out) (by omega) (by omega) rfl).mono ?_)); rintro e w10 ⟨rfl, rfl⟩))
    all_goals go_wp2_with fail
    all_goals go_ret
    all_goals exact ⟨rfl, bt hbb7.out.drew B9⟩
end Go.Proofs.Ytbkkblphaohgkaa
