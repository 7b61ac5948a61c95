/- The contracts of the reference's Value, Plus, Compare and Minus, on rows of bits. -/
import Derived.Test.YtkflkcpbemnmfaaSpec1
namespace Go.Proofs.Ytkflkcpbemnmfaa
open Go.RowKit
set_option linter.unusedVariables false
set_option maxRecDepth 100000 in
set_option maxHeartbeats 1000000 in
theorem spec_Value (A : Option Addr) (c N L : Nat) (w : World) (hA : Bits w A N L) (hN : N < 18446744073709551616) (hNL : N < 2 ^ L) (hL : L ≤ 1073741824) :
    Calls Try.prog 38 #[.slice A L c] w fun e w' => e = .returned (.int .u64 (N : Int)) ∧ w = w' := by
  go_enter Try.func38, Try.ntmps38
  go_wp2_with fail
  go_loop [3, 4] (fun n i => ∃ j T : Nat, j ≤ L ∧ i = .int .i64 ((j : Int) - 1) ∧ n = .int .u64 (T : Int) ∧ Hid (T = N / 2 ^ j)) (fun _ i => (intOf i + 1).toNat)
  case atStart => exact ⟨L, 0, by omega, rfl, rfl, by unfold Hid; rw [Nat.div_eq_of_lt hNL]⟩
  case round =>
    obtain ⟨j, T, hj, rfl, rfl, hT⟩ := hrel
    rcases Nat.eq_zero_or_pos j with h0 | h0
    · subst h0
      go_wp2_with fail
      go_ret
      exact ⟨ret1 (by rw [hT.out]; simp), rfl⟩
    · obtain ⟨k, rfl⟩ : ∃ k, j = k + 1 := ⟨j - 1, by omega⟩
      obtain ⟨b, o, rfl, hlt, hc⟩ := hA (by omega)
      have hk : ((k + 1 : Nat) : Int) - 1 = (k : Int) := by omega
      have hci := hc k (by omega)
      clear hc
      have hs := half_step N k
      rw [← hT.out] at hs
      have hle : N / 2 ^ k ≤ N := Nat.div_le_self _ _
      have hkL : k < L := by omega
      rw [hk]
      by_cases hb : N.testBit k = true
      · rw [hb] at hci hs
        have HS : Hid (2 * T + 1 = N / 2 ^ k) := by unfold Hid; rw [hs]; rfl
        have hTl : 2 * T + 1 < 18446744073709551616 := by rw [HS.out]; omega
        clear hs hle hb hk
        go_wp2_with fail
        go_round
        case rel => exact ⟨k, 2 * T + 1, by omega, rfl, congrArg _ (by omega), HS⟩
        case measure => simp [intOf]
      · have hb' : N.testBit k = false := by simpa using hb
        rw [hb'] at hci hs
        have HS : Hid (2 * T = N / 2 ^ k) := by unfold Hid; rw [hs]; rfl
        have hTl : 2 * T < 18446744073709551616 := by rw [HS.out]; omega
        clear hs hle hb hb' hk
        go_wp2_with fail
        go_round
        case rel => exact ⟨k, 2 * T, by omega, rfl, congrArg _ (by omega), HS⟩
        case measure => simp [intOf]
theorem plus_bit (A B c k x y o : Nat) (hx : bitN (A.testBit k) = x) (hy : bitN (B.testBit k) = y) (ho : o = car A B c k) : (((x : Int) + y + o) % 2 == 1) = (A + B + c).testBit k := by
  rw [tb, car_bit, ← ho, ← bitN_tb, ← bitN_tb, hx, hy]
  by_cases h : (x + y + o) % 2 = 1
  · have : ((x : Int) + y + o) % 2 = 1 := by omega
    simp [h, this]
  · have : ¬ ((x : Int) + y + o) % 2 = 1 := by omega
    simp [h, this]
theorem plus_over (A B c k x y o : Nat) (hx : bitN (A.testBit k) = x) (hy : bitN (B.testBit k) = y) (ho : o = car A B c k) : (x + y + o) / 2 = car A B c (k + 1) := by
  rw [car_succ, ← ho, ← bitN_tb, ← bitN_tb, hx, hy]
set_option maxRecDepth 100000 in
set_option maxHeartbeats 2000000 in
theorem plus_core (AA AB : Option Addr) (ca cb A B la lb m : Nat) (cy : Bool) (w : World) (hA : Bits w AA A la) (hB : Bits w AB B lb) (hAl : A < 2 ^ la) (hBl : B < 2 ^ lb) (hla : la ≤ 1073741824) (hlb : lb ≤ 1073741824)
    (hm : (la < lb ∧ m = lb) ∨ (lb ≤ la ∧ m = la)) :
    Calls Try.prog 36 #[.slice AA la ca, .slice AB lb cb, .bool cy] w (RetOwn w (A + B + bitN cy) (m + 1)) := by
  obtain ⟨i0, hi, hz0, hz1, hz2⟩ := info_parts bool_info
  have hcy := bitN_le cy
  generalize hc0 : bitN cy = c0 at *
  have HC0 := hide hc0
  clear hc0
  have hm2 : m ≤ 1073741824 := by omega
  rcases hm with ⟨hm1, rfl⟩ | ⟨hm1, rfl⟩
  all_goals
    have hm3 := hide hm1
    go_enter Try.func36, Try.ntmps36
    go_wp2_with (go_at_call 57; ((with_reducible refine (spec_one _ _).mono ?_); rintro e w1 ⟨rfl, rfl⟩; rw [HC0.out]))
    clear hm1
    go_loopw [7, 8, 9, 10, 19] (fun v o _ _ i wr => ∃ k O : Nat, k ≤ m + 1 ∧ i = .int .i64 (k : Int) ∧ o = .int .i64 (O : Int) ∧ O ≤ 1 ∧ Hid (O = car A B c0 k) ∧ Own wr w.heap.size v (A + B + c0) k ∧ Below w.heap.size w wr) (fun _ _ _ _ i _ => m + 1 - (intOf i).toNat)
    case atStart => exact ⟨0, c0, by omega, rfl, rfl, hcy, by unfold Hid; rw [car_zero], World.ownsRow_nil _ _ _ _, Below.refl _ _⟩
    case round =>
      obtain ⟨k, O, hk, rfl, rfl, hO1, hO, hown, hBe⟩ := hrel
      by_cases hlt : k < m + 1
      · have xl := bitN_le (A.testBit k)
        have yl := bitN_le (B.testBit k)
        generalize hx : bitN (A.testBit k) = x at xl
        generalize hy : bitN (B.testBit k) = y at yl
        have hbit := plus_bit A B c0 k x y O hx hy hO.out
        have hov := hide (plus_over A B c0 k x y O hx hy hO.out)
        have hdv : ((x : Int) + y + O) / 2 = (((x + y + O) / 2 : Nat) : Int) := by omega
        have hO2l : (x + y + O) / 2 ≤ 1 := by omega
        generalize (x + y + O) / 2 = O2 at hdv hov hO2l
        have Hx := hide hx
        have Hy := hide hy
        clear hx hy
        have hz := hBe.size
        have hAr := hide (hA.below hBe)
        have hBr := hide (hB.below hBe)
        go_wp2_with (first | (go_at_call 57; ((with_reducible refine (spec_one _ _).mono ?_); rintro e w1 ⟨rfl, rfl⟩; first | rw [Hx.out] | rw [Hy.out])) | (go_at_call 58; ((with_reducible refine (spec_At _ _ _ _ k _ (by first | exact hAr.out | exact hBr.out) (by first | exact hAl | exact hBl) (by omega)).mono ?_); rintro e w1 ⟨rfl, rfl⟩)) | (at_builtin; refine wpList_append_own _ rfl _ _ 53 rfl w.heap.size 4 i0 (.bool false) 1 1 Try.underlying53 hi hz0 hz1 hz2 rfl (by decide) _ _ _ rfl (hown.alloc _) ⟨wr.heap.size, 0, none⟩ 1 1 [.bool ((A + B + c0).testBit k)] rfl rfl ?c1 ?c2 ?c3 ?c4 ?c5 ?_))
        case c1 => exact cell_new1 _ _ _
        case c2 => intro u hu; simp at hu; subst hu; rfl
        case c3 => unfold maxLen; omega
        case c4 => omega
        case c5 => simp; omega
        · intro v' w1 hown' hgrow _
          have R : Own w1 w.heap.size v' (A + B + c0) (k + 1) := by
            unfold Own
            rw [← cellsOf_snoc]
            exact hown'
          have R2 : Below w.heap.size w w1 := (hBe.alloc hz _).grown hgrow (by simp; omega) (fun g hg => (World.ownsRow.lt hown g hg).1)
          clear hown' hgrow hown
          go_wp2_with fail
          go_roundw
          case rel => exact ⟨k + 1, O2, by omega, by go_num, congrArg _ hdv, hO2l, hov, R, R2⟩
          case measure => simp [intOf]; omega
      · obtain rfl : k = m + 1 := by omega
        go_wp2_with fail
        go_ret
        obtain ⟨A', c', rfl, hc'⟩ := hown.form
        exact ⟨A', c', rfl, hc', hown, hBe⟩
theorem spec_Plus (AA AB : Option Addr) (ca cb A B la lb : Nat) (cy : Bool) (w : World) (hA : Bits w AA A la) (hB : Bits w AB B lb) (hAl : A < 2 ^ la) (hBl : B < 2 ^ lb) (hla : la ≤ 1073741824) (hlb : lb ≤ 1073741824) :
    Calls Try.prog 36 #[.slice AA la ca, .slice AB lb cb, .bool cy] w (RetOwn w (A + B + bitN cy) (max la lb + 1)) := by
  by_cases h : la < lb
  · rw [show max la lb = lb by omega]
    exact plus_core AA AB ca cb A B la lb lb cy w hA hB hAl hBl hla hlb (.inl ⟨h, rfl⟩)
  · rw [show max la lb = la by omega]
    exact plus_core AA AB ca cb A B la lb la cy w hA hB hAl hBl hla hlb (.inr ⟨by omega, rfl⟩)
theorem plus_lt {A B la lb c : Nat} (hA : A < 2 ^ la) (hB : B < 2 ^ lb) (hc : c ≤ 1) : A + B + c < 2 ^ (max la lb + 1) := by
  have h1 := Nat.pow_le_pow_right (n := 2) (by omega) (Nat.le_max_left la lb)
  have h2 := Nat.pow_le_pow_right (n := 2) (by omega) (Nat.le_max_right la lb)
  rw [Nat.pow_succ]
  omega
set_option maxRecDepth 100000 in
set_option maxHeartbeats 2000000 in
theorem compare_core (AA AB : Option Addr) (ca cb A B la lb m : Nat) (w : World) (hA : Bits w AA A la) (hB : Bits w AB B lb) (hAl : A < 2 ^ la) (hBl : B < 2 ^ lb) (hla : la ≤ 1073741824) (hlb : lb ≤ 1073741824)
    (hm : (la < lb ∧ m = lb) ∨ (lb ≤ la ∧ m = la)) :
    Calls Try.prog 47 #[.slice AA la ca, .slice AB lb cb] w fun e w' => e = .returned (.int .i64 (cmpN A B)) ∧ w = w' := by
  have hm2 : m ≤ 1073741824 := by omega
  have hst : Hid (A / 2 ^ m = B / 2 ^ m) := by
    have h1 := Nat.pow_le_pow_right (n := 2) (by omega) (show la ≤ m by omega)
    have h2 := Nat.pow_le_pow_right (n := 2) (by omega) (show lb ≤ m by omega)
    unfold Hid
    rw [Nat.div_eq_of_lt (by omega), Nat.div_eq_of_lt (by omega)]
  have HA := hide hA
  have HB := hide hB
  have HAl := hide hAl
  have HBl := hide hBl
  clear hA hB hAl hBl
  rcases hm with ⟨hm1, rfl⟩ | ⟨hm1, rfl⟩
  all_goals
    go_enter Try.func47, Try.ntmps47
    go_wp2_with fail
    clear hm1
    go_loop [5, 6] (fun i _ => ∃ j : Nat, j ≤ m ∧ i = .int .i64 ((j : Int) - 1) ∧ Hid (A / 2 ^ j = B / 2 ^ j)) (fun i _ => (intOf i + 1).toNat)
    case atStart => exact ⟨m, by omega, rfl, hst⟩
    case round =>
      obtain ⟨j, hj, rfl, hE⟩ := hrel
      rcases Nat.eq_zero_or_pos j with h0 | h0
      · subst h0
        have hc := cmp_eq hE.out
        have HC := hide hc
        clear hc
        go_wp2_with fail
        go_ret
        exact ⟨ret1 HC.out.symm, rfl⟩
      · obtain ⟨k, rfl⟩ : ∃ k, j = k + 1 := ⟨j - 1, by omega⟩
        have hk : ((k + 1 : Nat) : Int) - 1 = (k : Int) := by omega
        rw [hk]
        clear hk
        rcases Bool.eq_false_or_eq_true (A.testBit k) with ha | ha <;> rcases Bool.eq_false_or_eq_true (B.testBit k) with hb | hb
        · have HS := hide (cmp_same hE.out (ha.trans hb.symm))
          have hx : bitN (A.testBit k) = 1 := by rw [ha]; rfl
          have hy : bitN (B.testBit k) = 1 := by rw [hb]; rfl
          clear ha hb
          go_wp2_with (first | (go_at_call 57; ((with_reducible refine (spec_one _ _).mono ?_); rintro e w1 ⟨rfl, rfl⟩; first | rw [hx] | rw [hy])) | (go_at_call 58; ((with_reducible refine (spec_At _ _ _ _ k _ (by first | exact HA.out | exact HB.out) (by first | exact HAl.out | exact HBl.out) (by omega)).mono ?_); rintro e w1 ⟨rfl, rfl⟩)))
          go_round
          case rel => exact ⟨k, by omega, rfl, HS⟩
          case measure => simp [intOf]
        · have HS := hide (cmp_more hE.out ha hb)
          have hx : bitN (A.testBit k) = 1 := by rw [ha]; rfl
          have hy : bitN (B.testBit k) = 0 := by rw [hb]; rfl
          clear ha hb
          go_wp2_with (first | (go_at_call 57; ((with_reducible refine (spec_one _ _).mono ?_); rintro e w1 ⟨rfl, rfl⟩; first | rw [hx] | rw [hy])) | (go_at_call 58; ((with_reducible refine (spec_At _ _ _ _ k _ (by first | exact HA.out | exact HB.out) (by first | exact HAl.out | exact HBl.out) (by omega)).mono ?_); rintro e w1 ⟨rfl, rfl⟩)))
          go_ret
          exact ⟨ret1 HS.out.symm, rfl⟩
        · have HS := hide (cmp_less hE.out ha hb)
          have hx : bitN (A.testBit k) = 0 := by rw [ha]; rfl
          have hy : bitN (B.testBit k) = 1 := by rw [hb]; rfl
          clear ha hb
          go_wp2_with (first | (go_at_call 57; ((with_reducible refine (spec_one _ _).mono ?_); rintro e w1 ⟨rfl, rfl⟩; first | rw [hx] | rw [hy])) | (go_at_call 58; ((with_reducible refine (spec_At _ _ _ _ k _ (by first | exact HA.out | exact HB.out) (by first | exact HAl.out | exact HBl.out) (by omega)).mono ?_); rintro e w1 ⟨rfl, rfl⟩)))
          go_ret
          exact ⟨ret1 HS.out.symm, rfl⟩
        · have HS := hide (cmp_same hE.out (ha.trans hb.symm))
          have hx : bitN (A.testBit k) = 0 := by rw [ha]; rfl
          have hy : bitN (B.testBit k) = 0 := by rw [hb]; rfl
          clear ha hb
          go_wp2_with (first | (go_at_call 57; ((with_reducible refine (spec_one _ _).mono ?_); rintro e w1 ⟨rfl, rfl⟩; first | rw [hx] | rw [hy])) | (go_at_call 58; ((with_reducible refine (spec_At _ _ _ _ k _ (by first | exact HA.out | exact HB.out) (by first | exact HAl.out | exact HBl.out) (by omega)).mono ?_); rintro e w1 ⟨rfl, rfl⟩)))
          go_round
          case rel => exact ⟨k, by omega, rfl, HS⟩
          case measure => simp [intOf]
theorem spec_Compare (AA AB : Option Addr) (ca cb A B la lb : Nat) (w : World) (hA : Bits w AA A la) (hB : Bits w AB B lb) (hAl : A < 2 ^ la) (hBl : B < 2 ^ lb) (hla : la ≤ 1073741824) (hlb : lb ≤ 1073741824) :
    Calls Try.prog 47 #[.slice AA la ca, .slice AB lb cb] w fun e w' => e = .returned (.int .i64 (cmpN A B)) ∧ w = w' := by
  by_cases h : la < lb
  · exact compare_core AA AB ca cb A B la lb lb w hA hB hAl hBl hla hlb (.inl ⟨h, rfl⟩)
  · exact compare_core AA AB ca cb A B la lb la w hA hB hAl hBl hla hlb (.inr ⟨by omega, rfl⟩)
theorem beq_int_nat (e : Int) (d : Nat) (h : e = 1 ↔ d = 1) : (e == 1) = (d == 1) := by
  rw [Bool.eq_iff_iff]
  simp [h]
set_option maxRecDepth 100000 in
set_option maxHeartbeats 4000000 in
theorem minus_core (AA AB : Option Addr) (ca cb A B D la lb : Nat) (w : World) (hA : Bits w AA A la) (hB : Bits w AB B lb) (hBl : B < 2 ^ lb) (hla : la ≤ 1073741824) (hlb : lb ≤ 1073741824) (hD : Hid (B + D = A)) :
    Calls Try.prog 48 #[.slice AA la ca, .slice AB lb cb] w (RetOwn w D la) := by
  obtain ⟨i0, hi, hz0, hz1, hz2⟩ := info_parts bool_info
  have HA := hide hA
  have HB := hide hB
  have HBl := hide hBl
  clear hA hB hBl
  go_enter Try.func48, Try.ntmps48
  go_wp2_with fail
  go_loopw [5, 6, 7, 8, 11] (fun v o _ _ i wr => ∃ k O : Nat, k ≤ la ∧ i = .int .i64 (k : Int) ∧ o = .int .i64 (O : Int) ∧ O ≤ 1 ∧ Hid (O = car B D 0 k) ∧ Own wr w.heap.size v D k ∧ Below w.heap.size w wr) (fun _ _ _ _ i _ => la - (intOf i).toNat)
  case atStart => exact ⟨0, 0, by omega, rfl, rfl, by omega, by unfold Hid; rw [car_zero], World.ownsRow_nil _ _ _ _, Below.refl _ _⟩
  case round =>
    obtain ⟨k, O, hk, rfl, rfl, hO1, hO, hown, hBe⟩ := hrel
    by_cases hlt : k < la
    · have hst := owe_step (k := k) hD.out
      rw [← hO.out] at hst
      have hO2 := car_le B D 0 (k + 1) (by omega)
      generalize hO2e : car B D 0 (k + 1) = O2 at hst hO2
      have HO2 : Hid (O2 = car B D 0 (k + 1)) := hO2e.symm
      clear hO2e
      have xl := bitN_le (A.testBit k)
      have yl := bitN_le (B.testBit k)
      have dl := bitN_le (D.testBit k)
      have hst' : bitN (A.testBit k) + 2 * O2 = bitN (B.testBit k) + bitN (D.testBit k) + O := hst
      clear hst
      have hdb : D.testBit k = (bitN (D.testBit k) == 1) := by cases D.testBit k <;> rfl
      have hz := hBe.size
      have HBr := hide (HB.out.below hBe)
      obtain ⟨b, o, rfl, hlt', hc⟩ := (HA.out.below hBe) (by omega)
      have hci := hc k hlt
      clear hc
      have hxe : Hid (bitN (A.testBit k) = bitN (A.testBit k)) := rfl
      generalize hab : A.testBit k = ab at *
      have Hab := hide hab
      clear hab
      generalize hx : bitN ab = x at *
      generalize hy : bitN (B.testBit k) = y at *
      generalize hd : bitN (D.testBit k) = d at *
      have Hx := hide hx
      have Hy := hide hy
      have Hd := hide hd
      have Hdb := hide hdb
      clear hx hy hd hdb hxe
      have hO20 : O2 = 0 ∨ O2 = 1 := by omega
      rcases hO20 with rfl | rfl
      · have hs1 : x ≤ y + d + O := by omega
        have hs2 : y + d + O ≤ x := by omega
        clear hst'
        have hbit : ((x : Int) - y - O == 1) = D.testBit k := by
          rw [Hdb.out]
          exact beq_int_nat _ _ (by omega)
        go_wp2_with (first | (go_at_call 57; ((with_reducible refine (spec_one _ _).mono ?_); rintro e w1 ⟨rfl, rfl⟩; first | rw [Hx.out] | rw [Hy.out])) | (go_at_call 58; ((with_reducible refine (spec_At _ _ _ _ k _ HBr.out HBl.out (by omega)).mono ?_); rintro e w1 ⟨rfl, rfl⟩)) | (at_builtin; refine wpList_append_own _ rfl _ _ 53 rfl w.heap.size 4 i0 (.bool false) 1 1 Try.underlying53 hi hz0 hz1 hz2 rfl (by decide) _ _ _ rfl (hown.alloc _) ⟨wr.heap.size, 0, none⟩ 1 1 [.bool (D.testBit k)] rfl rfl ?c1 ?c2 ?c3 ?c4 ?c5 ?_))
        case c1 => exact cell_new1 _ _ _
        case c2 => intro u hu; simp at hu; subst hu; rfl
        case c3 => unfold maxLen; omega
        case c4 => omega
        case c5 => simp; omega
        · intro v' w1 hown' hgrow _
          have R : Own w1 w.heap.size v' D (k + 1) := by
            unfold Own
            rw [← cellsOf_snoc]
            exact hown'
          have R2 : Below w.heap.size w w1 := (hBe.alloc hz _).grown hgrow (by simp; omega) (fun g hg => (World.ownsRow.lt hown g hg).1)
          clear hown' hgrow hown
          go_wp2_with fail
          go_roundw
          case rel => exact ⟨k + 1, 0, by omega, by go_num, rfl, by omega, HO2, R, R2⟩
          case measure => simp [intOf]; omega
      · have hs1 : x + 2 ≤ y + d + O := by omega
        have hs2 : y + d + O ≤ x + 2 := by omega
        clear hst'
        have hbit : ((x : Int) - y - O + 2 == 1) = D.testBit k := by
          rw [Hdb.out]
          exact beq_int_nat _ _ (by omega)
        go_wp2_with (first | (go_at_call 57; ((with_reducible refine (spec_one _ _).mono ?_); rintro e w1 ⟨rfl, rfl⟩; first | rw [Hx.out] | rw [Hy.out])) | (go_at_call 58; ((with_reducible refine (spec_At _ _ _ _ k _ HBr.out HBl.out (by omega)).mono ?_); rintro e w1 ⟨rfl, rfl⟩)) | (at_builtin; refine wpList_append_own _ rfl _ _ 53 rfl w.heap.size 4 i0 (.bool false) 1 1 Try.underlying53 hi hz0 hz1 hz2 rfl (by decide) _ _ _ rfl (hown.alloc _) ⟨wr.heap.size, 0, none⟩ 1 1 [.bool (D.testBit k)] rfl rfl ?d1 ?d2 ?d3 ?d4 ?d5 ?_))
        case d1 => exact cell_new1 _ _ _
        case d2 => intro u hu; simp at hu; subst hu; rfl
        case d3 => unfold maxLen; omega
        case d4 => omega
        case d5 => simp; omega
        · intro v' w1 hown' hgrow _
          have R : Own w1 w.heap.size v' D (k + 1) := by
            unfold Own
            rw [← cellsOf_snoc]
            exact hown'
          have R2 : Below w.heap.size w w1 := (hBe.alloc hz _).grown hgrow (by simp; omega) (fun g hg => (World.ownsRow.lt hown g hg).1)
          clear hown' hgrow hown
          go_wp2_with fail
          go_roundw
          case rel => exact ⟨k + 1, 1, by omega, by go_num, rfl, by omega, HO2, R, R2⟩
          case measure => simp [intOf]; omega
    · obtain rfl : k = la := by omega
      go_wp2_with fail
      go_ret
      obtain ⟨A', c', rfl, hc'⟩ := hown.form
      exact ⟨A', c', rfl, hc', hown, hBe⟩
theorem spec_Minus (AA AB : Option Addr) (ca cb A B la lb : Nat) (w : World) (hA : Bits w AA A la) (hB : Bits w AB B lb) (hBl : B < 2 ^ lb) (hla : la ≤ 1073741824) (hlb : lb ≤ 1073741824) (hle : B ≤ A) :
    Calls Try.prog 48 #[.slice AA la ca, .slice AB lb cb] w (RetOwn w (A - B) la) :=
  minus_core AA AB ca cb A B (A - B) la lb w hA hB hBl hla hlb (by unfold Hid; omega)
end Go.Proofs.Ytkflkcpbemnmfaa
