/- The contracts of the law's helper longDifference, and of the reference's Words and Equal. -/
import Derived.Test.YtbkkblphaohgkaaLong1
namespace Go.Proofs.Ytbkkblphaohgkaa
open Go.RowKit
set_option linter.unusedVariables false
def RetD (w : World) (N L O : Nat) (e : Ending) (w' : World) : Prop := ∃ A c, e = .returned (.tuple #[.slice A L c, .int .u64 (O : Int)]) ∧ L ≤ c ∧ OwnW w' w.heap.size (.slice A L c) N L ∧ Below w.heap.size w w'
theorem sub_nat (x y d o O2 : Nat) (hx : x < 18446744073709551616) (hy : y < 18446744073709551616) (hd : d < 18446744073709551616) (ho : o ≤ 1) (hO2 : O2 ≤ 1) (h : x + MM * O2 = y + d + o) :
    subD64 x y o = d ∧ subB64 x y o = O2 := by
  unfold subD64 subB64
  rw [MM_eq] at h
  refine ⟨by omega, ?_⟩
  split <;> omega
set_option maxRecDepth 100000 in
set_option maxHeartbeats 4000000 in
theorem longDiff_core (AA AB : Option Addr) (ca cb A B C D bor la lb m : Nat) (w : World) (hA : Wds w AA A la) (hB : Wds w AB B lb) (hAl : A < MM ^ la) (hBl : B < MM ^ lb) (hC : C ≤ 1) (hla : la ≤ 17592186043904) (hlb : lb ≤ 17592186043904)
    (hm : (la < lb ∧ m = lb) ∨ (lb ≤ la ∧ m = la)) (hD : Hid (B + D + C = A + MM ^ m * bor)) (hDl : D < MM ^ m) :
    Calls Try.prog 9 #[.slice AA la ca, .slice AB lb cb, .int .u64 (C : Int)] w (RetD w D m bor) := by
  obtain ⟨i0, hi, hz0, hz1, hz2⟩ := info_parts u64_info
  have hm2 : m ≤ 17592186043904 := by omega
  have hAm : A < MM ^ m := Nat.lt_of_lt_of_le hAl (Nat.pow_le_pow_right (by decide) (by omega))
  have hBm : B < MM ^ m := Nat.lt_of_lt_of_le hBl (Nat.pow_le_pow_right (by decide) (by omega))
  have htop : Hid (carW B D C m = bor) := by
    unfold Hid carW
    rw [Nat.mod_eq_of_lt hBm, Nat.mod_eq_of_lt hDl, hD.out, Nat.add_mul_div_left _ _ (MM_pos m), Nat.div_eq_of_lt hAm, Nat.zero_add]
  have hdig : Hid (∀ k, k < m → dig A k = dig (B + D + C) k) := by
    intro k hk
    rw [hD.out, ← dig_mod A m k hk, ← dig_mod (A + MM ^ m * bor) m k hk, Nat.add_mul_mod_self_left]
  have HA := hide hA
  have HB := hide hB
  have HAl := hide hAl
  have HBl := hide hBl
  clear hA hB hAl hBl hAm hBm hDl
  rcases hm with ⟨hm1, rfl⟩ | ⟨hm1, rfl⟩
  all_goals
    go_enter Try.func9, Try.ntmps9
    go_wp2_with fail
    clear hm1
    go_loopw [2, 8, 9, 10, 11, 17] (fun o v _ _ _ i wr => ∃ k O : Nat, k ≤ m ∧ i = .int .i64 (k : Int) ∧ o = .int .u64 (O : Int) ∧ O ≤ 1 ∧ Hid (O = carW B D C k) ∧ OwnW wr w.heap.size v D k ∧ Below w.heap.size w wr) (fun _ _ _ _ _ i _ => m - (intOf i).toNat)
    case atStart => exact ⟨0, C, by omega, rfl, rfl, hC, by unfold Hid; rw [carW_zero], World.ownsRow_nil _ _ _ _, Below.refl _ _⟩
    case round =>
      obtain ⟨k, O, hk, rfl, rfl, hO1, hO, hown, hBe⟩ := hrel
      have hz := hBe.size
      by_cases hlt : k < m
      · have xl := dig_lt A k
        have yl := dig_lt B k
        have dl := dig_lt D k
        have hdg := carW_dig B D C k
        have hcs := carW_succ B D C k
        rw [← hO.out] at hdg hcs
        rw [← hdig.out k hlt] at hdg
        have hO2 := carW_le B D C (k + 1) hC
        have hsub := sub_nat (dig A k) (dig B k) (dig D k) O (carW B D C (k + 1)) xl yl dl hO1 hO2 (by
          rw [hdg, hcs, Nat.add_comm]; exact Nat.div_add_mod _ _)
        have hs := hsub.1
        have hc := hsub.2
        clear hsub hdg hcs
        generalize hO2e : carW B D C (k + 1) = O2 at hc hO2
        have HO2 : Hid (O2 = carW B D C (k + 1)) := hO2e.symm
        clear hO2e
        generalize hx : dig A k = x at *
        generalize hy : dig B k = y at *
        have Hx := hide hx
        have Hy := hide hy
        clear hx hy
        generalize hsd : dig D k = sd at hs dl
        have Hsd := hide hsd
        clear hsd
        have ux : U64 x := by unfold U64; omega
        have uy : U64 y := by unfold U64; omega
        have bO : B1 O := by unfold B1; omega
        have hAr := hide (HA.out.below hBe)
        have hBr := hide (HB.out.below hBe)
        go_wp2_with (first | (go_at_call 16; ((with_reducible refine (laws_word _ _ _ _ k _ (by first | exact hAr.out | exact hBr.out) (by first | exact HAl.out | exact HBl.out) (by omega)).mono ?_); rintro e w1 ⟨rfl, rfl⟩; first | rw [Hx.out] | rw [Hy.out])) | (go_at_call 21; ((with_reducible refine (impl_Sub64 _ _ _ ux uy bO _).mono ?_); rintro e w1 ⟨rfl, rfl⟩; rw [hs, hc])) | (at_builtin; refine wpList_append_own _ rfl _ _ 22 rfl w.heap.size 23 i0 (.int .u64 0) 1 8 Try.underlying22 hi hz0 hz1 hz2 rfl (by decide) _ _ _ rfl (hown.alloc _) ⟨wr.heap.size, 0, none⟩ 1 1 [.int .u64 (sd : Int)] rfl rfl ?c1 ?c2 ?c3 ?c4 ?c5 ?_))
        case c1 => exact cell_new1 _ _ _
        case c2 => intro u hu; simp at hu; subst hu; rfl
        case c3 => unfold maxLen; omega
        case c4 => omega
        case c5 => simp; omega
        · intro v' w1 hown' hgrow _
          have R : OwnW w1 w.heap.size v' D (k + 1) := by
            unfold OwnW
            rw [← wordsOf_snoc, Hsd.out]
            exact hown'
          have R2 : Below w.heap.size w w1 := (hBe.alloc hz _).grown hgrow (by simp; omega) (fun g hg => (World.ownsRow.lt hown g hg).1)
          clear hown' hgrow hown
          go_wp2_with fail
          go_roundw
          case rel => exact ⟨k + 1, O2, by omega, by go_num, rfl, hO2, HO2, R, R2⟩
          case measure => simp [intOf]; omega
      · obtain rfl : k = m := by omega
        obtain ⟨A', c', rfl, hc'⟩ := hown.form
        go_wp2_with fail
        go_ret2
        refine ⟨A', c', ?_, hc', hown, hBe⟩
        rw [← htop.out, ← hO.out]
        rfl
/-- 1 if A is less than B and C. -/
def borW (A B C : Nat) : Nat := if A < B + C then 1 else 0
theorem laws_longDifference (AA AB : Option Addr) (ca cb A B C la lb : Nat) (w : World) (hA : Wds w AA A la) (hB : Wds w AB B lb) (hAl : A < MM ^ la) (hBl : B < MM ^ lb) (hC : C ≤ 1) (hla : la ≤ 17592186043904) (hlb : lb ≤ 17592186043904) :
    Calls Try.prog 9 #[.slice AA la ca, .slice AB lb cb, .int .u64 (C : Int)] w (RetD w (A + MM ^ max la lb * borW A B C - (B + C)) (max la lb) (borW A B C)) := by
  have hAm : A < MM ^ max la lb := Nat.lt_of_lt_of_le hAl (Nat.pow_le_pow_right (by decide) (by omega))
  have hBm : B < MM ^ max la lb := Nat.lt_of_lt_of_le hBl (Nat.pow_le_pow_right (by decide) (by omega))
  have hb : borW A B C = 0 ∧ B + C ≤ A ∨ borW A B C = 1 ∧ A < B + C := by
    unfold borW
    by_cases h : A < B + C
    · rw [if_pos h]; exact .inr ⟨rfl, h⟩
    · rw [if_neg h]; exact .inl ⟨rfl, by omega⟩
  refine longDiff_core AA AB ca cb A B C _ (borW A B C) la lb (max la lb) w hA hB hAl hBl hC hla hlb (by omega) ?_ ?_
  · unfold Hid
    rcases hb with ⟨h, h'⟩ | ⟨h, h'⟩ <;> rw [h] <;> omega
  · rcases hb with ⟨h, h'⟩ | ⟨h, h'⟩ <;> rw [h] <;> omega
theorem words_step (N k : Nat) : N % 2 ^ (64 * k) + 2 ^ (64 * k) * dig N k = N % 2 ^ (64 * (k + 1)) := by
  unfold dig
  rw [← MM_two, ← MM_two, Nat.pow_succ, Nat.mod_mul]
set_option maxRecDepth 100000 in
set_option maxHeartbeats 2000000 in
theorem spec_Words (A : Option Addr) (c N L : Nat) (w : World) (hA : Wds w A N L) (hN : N < MM ^ L) (hL : L ≤ 8388608) :
    Calls Try.prog 12 #[.slice A L c] w (RetOwn w N (64 * L)) := by
  have HA := hide hA
  have HN := hide hN
  clear hA hN
  go_enter Try.func12, Try.ntmps12
  go_wp2_with fail
  go_loopw [3, 5, 8] (fun v _ i wr => ∃ (k : Nat) (A' : Option Addr) (c' l' : Nat), k ≤ L ∧ l' = 64 * k ∧ i = .int .i64 (k : Int) ∧ v = .slice A' l' c' ∧ l' ≤ c' ∧ Own wr w.heap.size (.slice A' l' c') (N % 2 ^ l') l' ∧ Below w.heap.size w wr) (fun _ _ i _ => L - (intOf i).toNat)
  case atStart => exact ⟨0, none, 0, 0, by omega, by omega, rfl, rfl, Nat.le_refl _, World.ownsRow_nil _ _ _ _, Below.refl _ _⟩
  case round =>
    obtain ⟨k, A', c', l', hk, hl', rfl, rfl, hc', hown, hBe⟩ := hrel
    by_cases hlt : k < L
    · obtain ⟨b, o, rfl, hlt', hc⟩ := (HA.out.below hBe) (by omega)
      have hci := hc k hlt
      clear hc
      have hz := hBe.size
      have hdl := dig_lt N k
      have hst := words_step N k
      rw [← hl', show 64 * (k + 1) = l' + 64 by omega] at hst
      have Hl : Hid (l' + 64 = 64 * (k + 1)) := by unfold Hid; omega
      have hll : l' ≤ 536870912 := by omega
      generalize dig N k = x at *
      have HST := hide hst
      have Hl' := hide hl'
      clear hst hl'
      have hml : N % 2 ^ l' < 2 ^ l' := Nat.mod_lt _ (Nat.two_pow_pos _)
      have HML := hide hml
      clear hml
      have hOf := hide (fun W => spec_Of x 64 W hdl (by omega))
      go_wp2_with fail
      refine (hOf.out _).mono ?_
      rintro e w2 ⟨A2, c2, rfl, hc2, R2, B2⟩
      have hR1 := hide (hown.below B2)
      have hR2 := hide R2.bits
      have hbb := hide (bt hBe B2)
      clear R2 B2 hown
      go_wp2_with (at_builtin; refine wpList_append_bits _ rfl _ _ rfl w.heap.size l' (N % 2 ^ l') 64 c2 x _ A2 rfl rfl hR1.out HML.out hR2.out (by omega) hbb.out.size ?_; intro A5 c5 w5 hc5 R5 hgrow5; have hb5 : Below w.heap.size w w5 := hbb.out.grown hgrow5 hbb.out.size (fun g hg => (World.ownsRow.lt hR1.out g hg).1))
      go_roundw
      case rel =>
        rw [HST.out] at R5
        exact ⟨k + 1, A5, c5, l' + 64, by omega, Hl.out, by go_num, rfl, hc5, R5, hb5⟩
      case measure => simp [intOf]; omega
    · obtain rfl : k = L := by omega
      subst hl'
      go_wp2_with fail
      go_ret
      refine ⟨A', c', rfl, hc', ?_, hBe⟩
      rw [Nat.mod_eq_of_lt (by rw [← MM_two]; exact HN.out)] at hown
      exact hown
theorem spec_Equal (AA AB : Option Addr) (ca cb A B la lb : Nat) (w : World) (hA : Bits w AA A la) (hB : Bits w AB B lb) (hAl : A < 2 ^ la) (hBl : B < 2 ^ lb) (hla : la ≤ 1073741824) (hlb : lb ≤ 1073741824) (hAB : A = B) :
    Calls Try.prog 14 #[.slice AA la ca, .slice AB lb cb] w fun e w' => e = .returned (.bool true) ∧ w = w' := by
  have hc : (cmpN A B == 0) = true := by subst hAB; simp [cmpN]
  have HC := hide (spec_Compare AA AB ca cb A B la lb w hA hB hAl hBl hla hlb)
  clear hA hB hAl hBl hAB
  go_enter Try.func14, Try.ntmps14
  go_wp2_with (go_at_call 13; ((with_reducible refine HC.out.mono ?_); rintro e w1 ⟨rfl, rfl⟩))
  go_ret
  exact ⟨rfl, rfl⟩
end Go.Proofs.Ytbkkblphaohgkaa
