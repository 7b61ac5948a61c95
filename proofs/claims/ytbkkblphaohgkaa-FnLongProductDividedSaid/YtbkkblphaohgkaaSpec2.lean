/- The contracts of the reference's Value, Plus, Compare and Minus, on rows of bits. -/
import Derived.Test.YtbkkblphaohgkaaSpec1
namespace Go.Proofs.Ytbkkblphaohgkaa
open Go.RowKit
set_option linter.unusedVariables false
theorem plus_bit (A B c k x y o : Nat) (hx : bitN (A.testBit k) = x) (hy : bitN (B.testBit k) = y) (ho : o = car A B c k) : (((x : Int) + y + o) % 2 == 1) = (A + B + c).testBit k := by
  rw [tb, car_bit, ← ho, ← bitN_tb, ← bitN_tb, hx, hy]
  by_cases h : (x + y + o) % 2 = 1
  · have : ((x : Int) + y + o) % 2 = 1 := by omega
    simp [h, this]
  · have : ¬ ((x : Int) + y + o) % 2 = 1 := by omega
    simp [h, this]
theorem plus_over (A B c k x y o : Nat) (hx : bitN (A.testBit k) = x) (hy : bitN (B.testBit k) = y) (ho : o = car A B c k) : (x + y + o) / 2 = car A B c (k + 1) := by
  rw [car_succ, ← ho, ← bitN_tb, ← bitN_tb, hx, hy]
set_option maxRecDepth 100000 in
set_option maxHeartbeats 2000000 in
theorem plus_core (AA AB : Option Addr) (ca cb A B la lb m : Nat) (cy : Bool) (w : World) (hA : Bits w AA A la) (hB : Bits w AB B lb) (hAl : A < 2 ^ la) (hBl : B < 2 ^ lb) (hla : la ≤ 1073741824) (hlb : lb ≤ 1073741824)
    (hm : (la < lb ∧ m = lb) ∨ (lb ≤ la ∧ m = la)) :
    Calls Try.prog 11 #[.slice AA la ca, .slice AB lb cb, .bool cy] w (RetOwn w (A + B + bitN cy) (m + 1)) := by
  obtain ⟨i0, hi, hz0, hz1, hz2⟩ := info_parts bool_info
  have hcy := bitN_le cy
  generalize hc0 : bitN cy = c0 at *
  have HC0 := hide hc0
  clear hc0
  have hm2 : m ≤ 1073741824 := by omega
  rcases hm with ⟨hm1, rfl⟩ | ⟨hm1, rfl⟩
  all_goals
    have hm3 := hide hm1
    go_enter Try.func11, Try.ntmps11
    go_wp2_with (go_at_call 22; ((with_reducible refine (spec_one _ _).mono ?_); rintro e w1 ⟨rfl, rfl⟩; rw [HC0.out]))
    clear hm1
    go_loopw [7, 8, 9, 10, 19] (fun v o _ _ i wr => ∃ k O : Nat, k ≤ m + 1 ∧ i = .int .i64 (k : Int) ∧ o = .int .i64 (O : Int) ∧ O ≤ 1 ∧ Hid (O = car A B c0 k) ∧ Own wr w.heap.size v (A + B + c0) k ∧ Below w.heap.size w wr) (fun _ _ _ _ i _ => m + 1 - (intOf i).toNat)
    case atStart => exact ⟨0, c0, by omega, rfl, rfl, hcy, by unfold Hid; rw [car_zero], World.ownsRow_nil _ _ _ _, Below.refl _ _⟩
    case round =>
      obtain ⟨k, O, hk, rfl, rfl, hO1, hO, hown, hBe⟩ := hrel
      by_cases hlt : k < m + 1
      · have xl := bitN_le (A.testBit k)
        have yl := bitN_le (B.testBit k)
        generalize hx : bitN (A.testBit k) = x at xl
        generalize hy : bitN (B.testBit k) = y at yl
        have hbit := plus_bit A B c0 k x y O hx hy hO.out
        have hov := hide (plus_over A B c0 k x y O hx hy hO.out)
        have hdv : ((x : Int) + y + O) / 2 = (((x + y + O) / 2 : Nat) : Int) := by omega
        have hO2l : (x + y + O) / 2 ≤ 1 := by omega
        generalize (x + y + O) / 2 = O2 at hdv hov hO2l
        have Hx := hide hx
        have Hy := hide hy
        clear hx hy
        have hz := hBe.size
        have hAr := hide (hA.below hBe)
        have hBr := hide (hB.below hBe)
        go_wp2_with (first | (go_at_call 22; ((with_reducible refine (spec_one _ _).mono ?_); rintro e w1 ⟨rfl, rfl⟩; first | rw [Hx.out] | rw [Hy.out])) | (go_at_call 23; ((with_reducible refine (spec_At _ _ _ _ k _ (by first | exact hAr.out | exact hBr.out) (by first | exact hAl | exact hBl) (by omega)).mono ?_); rintro e w1 ⟨rfl, rfl⟩)) | (at_builtin; refine wpList_append_own _ rfl _ _ 27 rfl w.heap.size 4 i0 (.bool false) 1 1 Try.underlying27 hi hz0 hz1 hz2 rfl (by decide) _ _ _ rfl (hown.alloc _) ⟨wr.heap.size, 0, none⟩ 1 1 [.bool ((A + B + c0).testBit k)] rfl rfl ?c1 ?c2 ?c3 ?c4 ?c5 ?_))
        case c1 => exact cell_new1 _ _ _
        case c2 => intro u hu; simp at hu; subst hu; rfl
        case c3 => unfold maxLen; omega
        case c4 => omega
        case c5 => simp; omega
        · intro v' w1 hown' hgrow _
          have R : Own w1 w.heap.size v' (A + B + c0) (k + 1) := by
            unfold Own
            rw [← cellsOf_snoc]
            exact hown'
          have R2 : Below w.heap.size w w1 := (hBe.alloc hz _).grown hgrow (by simp; omega) (fun g hg => (World.ownsRow.lt hown g hg).1)
          clear hown' hgrow hown
          go_wp2_with fail
          go_roundw
          case rel => exact ⟨k + 1, O2, by omega, by go_num, congrArg _ hdv, hO2l, hov, R, R2⟩
          case measure => simp [intOf]; omega
      · obtain rfl : k = m + 1 := by omega
        go_wp2_with fail
        go_ret
        obtain ⟨A', c', rfl, hc'⟩ := hown.form
        exact ⟨A', c', rfl, hc', hown, hBe⟩
theorem spec_Plus (AA AB : Option Addr) (ca cb A B la lb : Nat) (cy : Bool) (w : World) (hA : Bits w AA A la) (hB : Bits w AB B lb) (hAl : A < 2 ^ la) (hBl : B < 2 ^ lb) (hla : la ≤ 1073741824) (hlb : lb ≤ 1073741824) :
    Calls Try.prog 11 #[.slice AA la ca, .slice AB lb cb, .bool cy] w (RetOwn w (A + B + bitN cy) (max la lb + 1)) := by
  by_cases h : la < lb
  · rw [show max la lb = lb by omega]
    exact plus_core AA AB ca cb A B la lb lb cy w hA hB hAl hBl hla hlb (.inl ⟨h, rfl⟩)
  · rw [show max la lb = la by omega]
    exact plus_core AA AB ca cb A B la lb la cy w hA hB hAl hBl hla hlb (.inr ⟨by omega, rfl⟩)
theorem plus_lt {A B la lb c : Nat} (hA : A < 2 ^ la) (hB : B < 2 ^ lb) (hc : c ≤ 1) : A + B + c < 2 ^ (max la lb + 1) := by
  have h1 := Nat.pow_le_pow_right (n := 2) (by omega) (Nat.le_max_left la lb)
  have h2 := Nat.pow_le_pow_right (n := 2) (by omega) (Nat.le_max_right la lb)
  rw [Nat.pow_succ]
  omega
set_option maxRecDepth 100000 in
set_option maxHeartbeats 2000000 in
theorem compare_core (AA AB : Option Addr) (ca cb A B la lb m : Nat) (w : World) (hA : Bits w AA A la) (hB : Bits w AB B lb) (hAl : A < 2 ^ la) (hBl : B < 2 ^ lb) (hla : la ≤ 1073741824) (hlb : lb ≤ 1073741824)
    (hm : (la < lb ∧ m = lb) ∨ (lb ≤ la ∧ m = la)) :
    Calls Try.prog 13 #[.slice AA la ca, .slice AB lb cb] w fun e w' => e = .returned (.int .i64 (cmpN A B)) ∧ w = w' := by
  have hm2 : m ≤ 1073741824 := by omega
  have hst : Hid (A / 2 ^ m = B / 2 ^ m) := by
    have h1 := Nat.pow_le_pow_right (n := 2) (by omega) (show la ≤ m by omega)
    have h2 := Nat.pow_le_pow_right (n := 2) (by omega) (show lb ≤ m by omega)
    unfold Hid
    rw [Nat.div_eq_of_lt (by omega), Nat.div_eq_of_lt (by omega)]
  have HA := hide hA
  have HB := hide hB
  have HAl := hide hAl
  have HBl := hide hBl
  clear hA hB hAl hBl
  rcases hm with ⟨hm1, rfl⟩ | ⟨hm1, rfl⟩
  all_goals
    go_enter Try.func13, Try.ntmps13
    go_wp2_with fail
    clear hm1
    go_loop [5, 6] (fun i _ => ∃ j : Nat, j ≤ m ∧ i = .int .i64 ((j : Int) - 1) ∧ Hid (A / 2 ^ j = B / 2 ^ j)) (fun i _ => (intOf i + 1).toNat)
    case atStart => exact ⟨m, by omega, rfl, hst⟩
    case round =>
      obtain ⟨j, hj, rfl, hE⟩ := hrel
      rcases Nat.eq_zero_or_pos j with h0 | h0
      · subst h0
        have hc := cmp_eq hE.out
        have HC := hide hc
        clear hc
        go_wp2_with fail
        go_ret
        exact ⟨ret1 HC.out.symm, rfl⟩
      · obtain ⟨k, rfl⟩ : ∃ k, j = k + 1 := ⟨j - 1, by omega⟩
        have hk : ((k + 1 : Nat) : Int) - 1 = (k : Int) := by omega
        rw [hk]
        clear hk
        rcases Bool.eq_false_or_eq_true (A.testBit k) with ha | ha <;> rcases Bool.eq_false_or_eq_true (B.testBit k) with hb | hb
        · have HS := hide (cmp_same hE.out (ha.trans hb.symm))
          have hx : bitN (A.testBit k) = 1 := by rw [ha]; rfl
          have hy : bitN (B.testBit k) = 1 := by rw [hb]; rfl
          clear ha hb
          go_wp2_with (first | (go_at_call 22; ((with_reducible refine (spec_one _ _).mono ?_); rintro e w1 ⟨rfl, rfl⟩; first | rw [hx] | rw [hy])) | (go_at_call 23; ((with_reducible refine (spec_At _ _ _ _ k _ (by first | exact HA.out | exact HB.out) (by first | exact HAl.out | exact HBl.out) (by omega)).mono ?_); rintro e w1 ⟨rfl, rfl⟩)))
          go_round
          case rel => exact ⟨k, by omega, rfl, HS⟩
          case measure => simp [intOf]
        · have HS := hide (cmp_more hE.out ha hb)
          have hx : bitN (A.testBit k) = 1 := by rw [ha]; rfl
          have hy : bitN (B.testBit k) = 0 := by rw [hb]; rfl
          clear ha hb
          go_wp2_with (first | (go_at_call 22; ((with_reducible refine (spec_one _ _).mono ?_); rintro e w1 ⟨rfl, rfl⟩; first | rw [hx] | rw [hy])) | (go_at_call 23; ((with_reducible refine (spec_At _ _ _ _ k _ (by first | exact HA.out | exact HB.out) (by first | exact HAl.out | exact HBl.out) (by omega)).mono ?_); rintro e w1 ⟨rfl, rfl⟩)))
          go_ret
          exact ⟨ret1 HS.out.symm, rfl⟩
        · have HS := hide (cmp_less hE.out ha hb)
          have hx : bitN (A.testBit k) = 0 := by rw [ha]; rfl
          have hy : bitN (B.testBit k) = 1 := by rw [hb]; rfl
          clear ha hb
          go_wp2_with (first | (go_at_call 22; ((with_reducible refine (spec_one _ _).mono ?_); rintro e w1 ⟨rfl, rfl⟩; first | rw [hx] | rw [hy])) | (go_at_call 23; ((with_reducible refine (spec_At _ _ _ _ k _ (by first | exact HA.out | exact HB.out) (by first | exact HAl.out | exact HBl.out) (by omega)).mono ?_); rintro e w1 ⟨rfl, rfl⟩)))
          go_ret
          exact ⟨ret1 HS.out.symm, rfl⟩
        · have HS := hide (cmp_same hE.out (ha.trans hb.symm))
          have hx : bitN (A.testBit k) = 0 := by rw [ha]; rfl
          have hy : bitN (B.testBit k) = 0 := by rw [hb]; rfl
          clear ha hb
          go_wp2_with (first | (go_at_call 22; ((with_reducible refine (spec_one _ _).mono ?_); rintro e w1 ⟨rfl, rfl⟩; first | rw [hx] | rw [hy])) | (go_at_call 23; ((with_reducible refine (spec_At _ _ _ _ k _ (by first | exact HA.out | exact HB.out) (by first | exact HAl.out | exact HBl.out) (by omega)).mono ?_); rintro e w1 ⟨rfl, rfl⟩)))
          go_round
          case rel => exact ⟨k, by omega, rfl, HS⟩
          case measure => simp [intOf]
theorem spec_Compare (AA AB : Option Addr) (ca cb A B la lb : Nat) (w : World) (hA : Bits w AA A la) (hB : Bits w AB B lb) (hAl : A < 2 ^ la) (hBl : B < 2 ^ lb) (hla : la ≤ 1073741824) (hlb : lb ≤ 1073741824) :
    Calls Try.prog 13 #[.slice AA la ca, .slice AB lb cb] w fun e w' => e = .returned (.int .i64 (cmpN A B)) ∧ w = w' := by
  by_cases h : la < lb
  · exact compare_core AA AB ca cb A B la lb lb w hA hB hAl hBl hla hlb (.inl ⟨h, rfl⟩)
  · exact compare_core AA AB ca cb A B la lb la w hA hB hAl hBl hla hlb (.inr ⟨by omega, rfl⟩)
theorem beq_int_nat (e : Int) (d : Nat) (h : e = 1 ↔ d = 1) : (e == 1) = (d == 1) := by
  rw [Bool.eq_iff_iff]
  simp [h]
end Go.Proofs.Ytbkkblphaohgkaa
