/- The walk of the law FnLongSumUndone: out of the contracts of what it calls, it returns true; nothing that was in memory changes. -/
import Derived.Test.YtbkkblphaohgkaaFnLongDifferenceW
import Derived.Deep.QuietTactic
import Derived.BigQuiet

namespace Go.Proofs.Ytbkkblphaohgkaa
open Go.RowKit
set_option linter.unusedVariables false
theorem undone_law {A B C m : Nat} (hA : A < MM ^ m) (hB : B < MM ^ m) (hC : C ≤ 1) :
    borW ((A + B + C) % MM ^ m) B C = dig (A + B + C) m ∧ (A + B + C) % MM ^ m + MM ^ m * borW ((A + B + C) % MM ^ m) B C - (B + C) = A := by
  have ht := carW_top hA hB hC
  have hl := carW_le A B C m hC
  rw [ht] at hl
  unfold carW at ht
  rw [Nat.mod_eq_of_lt hA, Nat.mod_eq_of_lt hB] at ht
  have hdm := Nat.div_add_mod (A + B + C) (MM ^ m)
  rw [ht] at hdm
  have hmod := Nat.mod_lt (A + B + C) (MM_pos m)
  generalize dig (A + B + C) m = c at *
  generalize (A + B + C) % MM ^ m = S at *
  have hc : c = 0 ∨ c = 1 := by omega
  rcases hc with rfl | rfl
  · have hb : borW S B C = 0 := by unfold borW; rw [if_neg (by omega)]
    rw [hb]
    exact ⟨rfl, by omega⟩
  · have hb : borW S B C = 1 := by unfold borW; rw [if_pos (by omega)]
    rw [hb]
    exact ⟨rfl, by omega⟩
theorem quiet_word {P : Program} {f : FuncId} {args : Array Value} {w : World} {n : Nat} {v : Value} (h : Calls P f args (w.drewN n) fun e w' => e = .returned v ∧ w.drewN n = w') :
    Calls P f args (w.drewN n) fun e w'' => e = .returned v ∧ ∃ m, w'' = w.drewN m := h.mono fun _ _ ⟨he, hm⟩ => ⟨he, n, hm.symm⟩
theorem Wds.drewN {w : World} {A : Option Addr} {N L : Nat} (h : Wds w A N L) (n : Nat) : Wds (w.drewN n) A N L := h
set_option maxRecDepth 100000 in
set_option maxHeartbeats 4000000 in
theorem walk_FnLongSumUndone (AA : Option Addr) (ca A la : Nat) (AB : Option Addr) (cb B lb : Nat) (cy : Bool) (w : World) (hA : Wds w AA A la) (hAl : A < MM ^ la) (hla : la ≤ 17592186043904) (hB : Wds w AB B lb) (hBl : B < MM ^ lb) (hlb : lb ≤ 17592186043904) :
    Calls Try.prog 5 #[.slice AA la ca, .slice AB lb cb, .bool cy] w fun e w' => e = .returned (.bool true) ∧ Below w.heap.size w w' := by
  have hcy := bitN_le cy
  have hbI := bitI_nat cy
  obtain ⟨m, hm⟩ : ∃ m, m = max la lb := ⟨_, rfl⟩
  have HAm : Hid (A < MM ^ m) := Nat.lt_of_lt_of_le hAl (Nat.pow_le_pow_right (by decide) (by omega))
  have HBm : Hid (B < MM ^ m) := Nat.lt_of_lt_of_le hBl (Nat.pow_le_pow_right (by decide) (by omega))
  have hu := undone_law (C := bitN cy) HAm.out HBm.out hcy
  have hSm := laws_longSum AA AB ca cb A B (bitN cy) la lb w hA hB hAl hBl hcy (by omega) (by omega)
  rw [← hm] at hSm
  have hml : m ≤ 17592186043904 := by omega
  have hlam : la ≤ m := by omega
  have hlbm : lb ≤ m := by omega
  have hDf := fun (AX : Option Addr) (cx : Nat) (W : World) h1 h2 => laws_longDifference AX AB cx cb ((A + B + bitN cy) % MM ^ m) B (bitN cy) m lb W h1 h2 (Nat.mod_lt _ (MM_pos m)) hBl hcy (by omega) (by omega)
  rw [Nat.max_eq_left hlbm, hu.2, hu.1] at hDf
  have HSm := hide hSm
  have HDf := hide hDf
  have HA := hide hA
  have HB := hide hB
  have HAl := hide hAl
  clear hA hB hAl hBl hm hu hSm hDf
  generalize hSe : A + B + bitN cy = S at *
  have HSe := hide hSe
  clear hSe
  have hdl := dig_lt S m
  have hM0 : (0 : Int) ≤ (m : Int) := by omega
  go_enter Try.func5, Try.ntmps5
  go_wp2_with (go_at_call 10; ((with_reducible refine (laws_bit _ _).mono ?_); rintro e w1 ⟨rfl, rfl⟩))
  with_reducible refine HSm.out.mono ?_
  rintro e w1 ⟨A1, c1, rfl, hc1, R1, B1⟩
  obtain ⟨b1, o1, hA1, hblt, hcells⟩ := R1.bits (by omega)
  subst hA1
  have hcm := hcells m (by omega)
  have Hcm := hide hcm
  have hS1 : Hid (Wds w1 (some ⟨b1, o1, none⟩) (S % MM ^ m) m) := (R1.bits.take (by omega)).congr fun i hi => (dig_mod S m i hi).symm
  have hmc : (m : Int) ≤ (c1 : Int) := by omega
  have hmc' : m ≤ c1 := by omega
  have Hc1 := hide hc1
  have Hblt := hide hblt
  clear hcells hcm R1 hc1 hblt
  go_wp2_with fail
  go_region_held3 (fun _ => True) (trivial) (first | (go_at_call 10; ((with_reducible refine (laws_bit _ _).mono ?_)); rintro e w2 ⟨rfl, rfl⟩) | (go_at_call 9; ((with_reducible refine (HDf.out (some ⟨b1, o1, none⟩) c1 _ hS1.out.drew (HB.out.below B1).drew).mono ?_)); rintro e w2 ⟨A2, c2, rfl, hc2, R2, B2⟩))
  have hbb := hide (bt B1.drew B2)
  have hW2 := hide R2.bits
  have hAw := hide ((HA.out.below B1).drew.below B2)
  have hcm2 : Hid (w2.cell? ⟨b1, o1 + m, none⟩ = some (.int .u64 ((dig S m : Nat) : Int))) := (B2.cell (p := ⟨b1, o1 + m, none⟩) Hblt.out).trans Hcm.out
  have Hb12 : Hid (b1 < w2.heap.size) := Nat.lt_of_lt_of_le Hblt.out B2.size
  clear R2 B1 B2
  go_wp2_with fail
  go_loopw [11, 32] (fun _ i wr => ∃ k : Nat, k ≤ m ∧ i = .int .i64 (k : Int) ∧ Below w2.heap.size w2 wr) (fun _ i _ => m - (intOf i).toNat)
  case atStart => exact ⟨0, by omega, rfl, Below.refl _ _⟩
  case round =>
    obtain ⟨k, hk, rfl, hBr⟩ := hrel
    by_cases hlt : k < m
    · obtain ⟨b2, o2, hA2, hblt2, hcells⟩ := hW2.out (by omega)
      subst hA2
      have hck : wr.cell? ⟨b2, o2 + k, none⟩ = some (.int .u64 ((dig A k : Nat) : Int)) := (hBr.cell (p := ⟨b2, o2 + k, none⟩) hblt2).trans (hcells k hlt)
      have hk0 : (0 : Int) ≤ (k : Int) := by omega
      have hkm : (k : Int) < (m : Int) := by omega
      clear hcells
      go_wp2_with fail
      go_quiet ((go_at_call 16; (with_reducible exact quiet_word (laws_word AA ca A la k _ ((hAw.out.below hBr).drewN _) HAl.out (by omega)))))
      go_wp2_with fail
      go_roundw
      case rel => exact ⟨k + 1, by omega, by go_num, below_drewN hBr _⟩
      case measure => simp [intOf]; omega
    · obtain rfl : k = m := by omega
      have hck : wr.cell? ⟨b1, o1 + k, none⟩ = some (.int .u64 ((dig S k : Nat) : Int)) := (hBr.cell (p := ⟨b1, o1 + k, none⟩) Hb12.out).trans hcm2.out
      have hkm : (k : Int) < ((k + 1 : Nat) : Int) := by omega
      go_wp2_with fail
      go_ret
      exact ⟨rfl, bt hbb.out hBr⟩
end Go.Proofs.Ytbkkblphaohgkaa
