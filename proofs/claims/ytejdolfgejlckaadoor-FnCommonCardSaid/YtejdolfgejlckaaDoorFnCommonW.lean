/- The contracts of TrailingZeros64 and of the reference's Common, and the walk of the law FnCommon: it returns true; nothing that was in memory changes. -/
import Derived.Test.YtejdolfgejlckaaDoorLaw
import Derived.Test.YtejdolfgejlckaaDoorGcd
import Derived.Deep.QuietTactic
import Derived.BigQuiet
import Derived.WalkSmall
namespace Go.Proofs.YtejdolfgejlckaaDoor
open Go.RowKit
set_option linter.unusedVariables false
/-- The table lies in its variable. -/
def Tab (w : World) : Prop := ∀ j, j < 64 → w.cell? ⟨0, j, none⟩ = some (.int .u8 ((Lib.deBruijn64tab.getD j 0 : Nat) : Int))
set_option maxHeartbeats 1000000 in
theorem tz64_core (x k idx : Nat) (w : World) (hx0 : ((x : Int) == 0) = false)
    (key : IntKind.u64.wrap (bits BinOp.and IntKind.u64 (x : Int) (IntKind.u64.wrap (-(x : Int))) * 285870213051353865) / 288230376151711744 = (idx : Int))
    (hi : idx < 64) (hk : k < 64) (hcell : w.cell? ⟨0, idx, none⟩ = some (.int .u8 k)) :
    Calls Tryd.prog 7 #[.int .u64 x] w fun e w' => e = .returned (.int .i64 k) ∧ w = w' := by
  go_enter Tryd.func7, Tryd.ntmps7
  go_wp2_with (simp only [key])
  go_ret
  exact ⟨rfl, rfl⟩
theorem tz64_zero (w : World) : Calls Tryd.prog 7 #[.int .u64 0] w fun e w' => e = .returned (.int .i64 64) ∧ w = w' := by
  go_enter Tryd.func7, Tryd.ntmps7
  go_wp2
  go_ret
  exact ⟨rfl, rfl⟩
theorem bits_TrailingZeros64 (x : Nat) (hx0 : x ≠ 0) (hx : x < 18446744073709551616) (w : World) (hT : Tab w) :
    Calls Tryd.prog 7 #[.int .u64 (x : Int)] w fun e w' => e = .returned (.int .i64 ((Lib.ctz 64 x : Nat) : Int)) ∧ w = w' := by
  obtain ⟨hlow, hk⟩ := Lib.lowest_bit 64 x hx0 hx
  obtain ⟨hi, htab⟩ := Lib.deBruijn64_at _ hk
  have hcell := hT _ hi
  rw [htab] at hcell
  exact tz64_core x _ _ w (by simp; omega) (tz_key x _ hx hx0 hlow) hi hk hcell
theorem impl_TrailingZeros64 (x : Nat) (hx0 : x ≠ 0) (hx : x < 18446744073709551616) (w : World) (hT : Tab w) :
    Calls Tryd.prog 5 #[.int .u64 (x : Int)] w fun e w' => e = .returned (.int .i64 ((Lib.ctz 64 x : Nat) : Int)) ∧ w = w' := by
  have HC := hide (bits_TrailingZeros64 x hx0 hx w hT)
  clear hT
  go_enter Tryd.func5, Tryd.ntmps5
  go_wp2_with (go_at_call 7; refine HC.out.mono ?_; rintro e w1 ⟨rfl, rfl⟩)
  go_ret
  exact ⟨rfl, rfl⟩
theorem impl_TrailingZeros64_zero (w : World) : Calls Tryd.prog 5 #[.int .u64 0] w fun e w' => e = .returned (.int .i64 64) ∧ w = w' := by
  have HC := hide (tz64_zero w)
  go_enter Tryd.func5, Tryd.ntmps5
  go_wp2_with (go_at_call 7; refine HC.out.mono ?_; rintro e w1 ⟨rfl, rfl⟩)
  go_ret
  exact ⟨rfl, rfl⟩
set_option maxRecDepth 100000 in
set_option maxHeartbeats 1000000 in
/-- Euclid's greatest common divisor. -/
theorem spec_Common (x y : Nat) (hx : x < 18446744073709551616) (hy : y < 18446744073709551616) (w : World) :
    Calls Tryd.prog 4 #[.int .u64 (x : Int), .int .u64 (y : Int)] w fun e w' => e = .returned (.int .u64 ((Nat.gcd x y : Nat) : Int)) ∧ ∃ n, w' = w.drewN n := by
  go_enter Tryd.func4, Tryd.ntmps4
  go_wp2_with fail
  go_loopw [0, 1] (fun a b wr => ∃ A B n : Nat, a = .int .u64 (A : Int) ∧ b = .int .u64 (B : Int) ∧ A < 18446744073709551616 ∧ B < 18446744073709551616 ∧ Hid (Nat.gcd A B = Nat.gcd x y) ∧ wr = w.drewN n) (fun _ b _ => (intOf b).toNat)
  case atStart => exact ⟨x, y, 0, rfl, rfl, hx, hy, rfl, rfl⟩
  case round =>
    obtain ⟨A, B, n, rfl, rfl, hA, hB, HG, rfl⟩ := hrel
    by_cases h0 : B = 0
    · subst h0
      go_wp2_with fail
      go_ret
      have hg := HG.out
      rw [Nat.gcd_zero_right] at hg
      exact ⟨ret1 (by rw [← hg]), n, rfl⟩
    · have hm : A % B < B := Nat.mod_lt _ (by omega)
      have hB0 : ((B : Int) == 0) = false := by simp; omega
      have hB1 : ((B : Int) != 0) = true := by simp; omega
      have hB2 : ¬ (B : Int) = 0 := by omega
      have HG2 : Hid (Nat.gcd B (A % B) = Nat.gcd x y) := by
        have := HG.out
        rw [Nat.gcd_comm, Nat.gcd_rec] at this
        unfold Hid
        rw [← this, Nat.gcd_comm]
      go_wp2_with fail
      go_quiet (fail)
      go_wp2_with fail
      go_roundw
      case rel => exact ⟨B, A % B, n + nq, rfl, rfl, by omega, by omega, HG2, World.drewN_drewN w n nq⟩
      case measure => simp [intOf, ← Int.natCast_emod]; exact hm
theorem quiet_drew {P : Program} {f : FuncId} {args : Array Value} {w : World} {n : Nat} {v : Value} (h : Calls P f args (w.drewN n) fun e w' => e = .returned v ∧ ∃ m, w' = (w.drewN n).drewN m) :
    Calls P f args (w.drewN n) fun e w'' => e = .returned v ∧ ∃ m, w'' = w.drewN m := h.mono fun _ _ ⟨he, m, hm⟩ => ⟨he, n + m, hm.trans (World.drewN_drewN w n m)⟩
theorem shr_parts {X k c : Nat} (h : X = 2 ^ k * c) : (X : Int) / 2 ^ k = (c : Int) := by
  rw [h, Int.natCast_mul, Int.natCast_pow]
  exact Int.mul_ediv_cancel_left _ (Int.ne_of_gt (Int.pow_pos (by decide)))
theorem shl_end {A K G X : Nat} (h : A * 2 ^ K = G) (hG : G ≤ X) (hX : X < 18446744073709551616) : IntKind.u64.wrap ((A : Int) * 2 ^ K) = (G : Int) := by
  have e : (A : Int) * 2 ^ K = ((A * 2 ^ K : Nat) : Int) := by rw [Int.natCast_mul, Int.natCast_pow]; rfl
  rw [e, h, IntKind.wrap_u64]
  omega
theorem sub_end {lo hi : Nat} (h : lo ≤ hi) (hh : hi < 18446744073709551616) : subD64 hi lo 0 = ((hi - lo : Nat) : Int) := by
  unfold subD64
  omega
set_option maxRecDepth 100000 in
set_option maxHeartbeats 1000000 in
theorem walk_none (X Y : Nat) (hX : X < 18446744073709551616) (hY : Y < 18446744073709551616) (h0 : X = 0 ∨ Y = 0) (w : World) :
    Calls Tryd.prog 3 #[.int .u64 (X : Int), .int .u64 (Y : Int)] w fun e w' => e = .returned (.bool true) ∧ Below w.heap.size w w' := by
  have HC := hide (spec_Common X Y hX hY w)
  by_cases hx : X = 0
  · subst hx
    have ho := (or_none Y hY).2
    rw [Nat.gcd_zero_left] at HC
    clear h0
    go_enter Tryd.func3, Tryd.ntmps3
    go_wp2_with (first | (go_at_call 4; refine HC.out.mono ?_; rintro e w1 ⟨rfl, n, rfl⟩) | (go_at_call 5; refine (impl_TrailingZeros64_zero _).mono ?_; rintro e w1 ⟨rfl, rfl⟩))
    go_ret
    exact ⟨rfl, below_drewN (Below.refl _ _) _⟩
  · obtain rfl : Y = 0 := by omega
    have ho := (or_none X hX).1
    have hx0 : ((X : Int) == 0) = false := by simp; omega
    rw [Nat.gcd_zero_right] at HC
    clear h0
    go_enter Tryd.func3, Tryd.ntmps3
    go_wp2_with (first | (go_at_call 4; refine HC.out.mono ?_; rintro e w1 ⟨rfl, n, rfl⟩) | (go_at_call 5; refine (impl_TrailingZeros64_zero _).mono ?_; rintro e w1 ⟨rfl, rfl⟩))
    go_ret
    exact ⟨rfl, below_drewN (Below.refl _ _) _⟩
set_option maxRecDepth 100000 in
set_option maxHeartbeats 4000000 in
theorem walk_core (X Y I J K A0 Y0 : Nat) (hX : X < 18446744073709551616) (hY : Y < 18446744073709551616) (hX0 : X ≠ 0) (hY0 : Y ≠ 0) (w : World) (hT : Tab w)
    (hI : I < 64) (hJ : J < 64) (hIe : Lib.ctz 64 X = I) (hJe : Lib.ctz 64 Y = J) (hXe : X = 2 ^ I * A0) (hA0 : A0 % 2 = 1) (hYe : Y = 2 ^ J * Y0) (hY0o : Y0 % 2 = 1)
    (hK : (I < J ∧ K = I) ∨ (I = J ∧ K = I) ∨ (J < I ∧ K = J)) :
    Calls Tryd.prog 3 #[.int .u64 (X : Int), .int .u64 (Y : Int)] w fun e w' => e = .returned (.bool true) ∧ Below w.heap.size w w' := by
  have HE := hide (bin_end (K := K) hXe hA0 hYe hY0o (by omega))
  have HC := hide (spec_Common X Y hX hY)
  have HZX := hide (impl_TrailingZeros64 X hX0 hX w hT)
  have HZY := hide (impl_TrailingZeros64 Y hY0 hY w hT)
  have HT := hide hT
  rw [hIe] at HZX
  rw [hJe] at HZY
  have hsx := shr_parts hXe
  have hA0l : A0 < 18446744073709551616 := Nat.lt_of_le_of_lt (by rw [hXe]; exact Nat.le_mul_of_pos_left _ (Nat.pow_pos (by decide))) hX
  have HX := hide hX
  have hx0 : ((X : Int) == 0) = false := by simp; omega
  have hy0 : ((Y : Int) == 0) = false := by simp; omega
  clear hT hIe hJe hXe hYe hY0o
  rcases hK with ⟨hK, rfl⟩ | ⟨rfl, rfl⟩ | ⟨hK, rfl⟩
  all_goals
    go_enter Tryd.func3, Tryd.ntmps3
    go_wp2_with (go_at_call 5; ((with_reducible first | refine HZX.out.mono ?_ | refine HZY.out.mono ?_); rintro e w1 ⟨rfl, rfl⟩))
    go_loop [6, 7, 8] (fun a st b => ∃ A S B : Nat, a = .int .u64 (A : Int) ∧ st = .int .i64 (S : Int) ∧ b = .int .u64 (B : Int) ∧ A < 18446744073709551616 ∧ B < 18446744073709551616 ∧ A % 2 = 1 ∧ (S = 0 ∨ B % 2 = 0) ∧ S < 130 ∧ Hid (A * B * 2 ^ S < 680564733841876926926749214863536422912) ∧ Hid (Nat.gcd A B = Nat.gcd A0 Y)) (fun _ st _ => 200 - (intOf st).toNat)
    case atStart => exact ⟨A0, 0, Y, rfl, rfl, rfl, hA0l, hY, hA0, .inl rfl, by omega, bin_start hA0l hY, rfl⟩
    case round =>
      obtain ⟨A, S, B, rfl, rfl, rfl, hAl, hBl, hAo, hSB, hS, HP, HG⟩ := hrel
      by_cases hB0 : B = 0
      · subst hB0
        have hsl : IntKind.u64.wrap ((A : Int) * 2 ^ K) = ((Nat.gcd X Y : Nat) : Int) := by
          refine shl_end (X := X) ?_ (Nat.gcd_le_left _ (by omega)) HX.out
          rw [← HE.out, ← HG.out, Nat.gcd_zero_right]
        go_wp2_with fail
        go_quiet ((go_at_call 4; exact quiet_drew (HC.out _)))
        go_wp2_with fail
        go_ret
        exact ⟨rfl, below_drewN (Below.refl _ _) _⟩
      · have hSl := bin_steps hAo hB0 HP.out
        obtain ⟨hk, C, hBe, hCo⟩ := ctz_parts hB0 hBl
        have HZ := hide (impl_TrailingZeros64 B hB0 hBl w HT.out)
        generalize Lib.ctz 64 B = k at *
        have hsb := shr_parts hBe
        have hCl : C < 18446744073709551616 := Nat.lt_of_le_of_lt (by rw [hBe]; exact Nat.le_mul_of_pos_left _ (Nat.pow_pos (by decide))) hBl
        have hst := fun lo hi h hle => bin_step (lo := lo) (hi := hi) hAo hBe hCo hSB hAl hBl HP.out h hle
        rw [HG.out] at hst
        have HST := hide hst
        have hb0 : ((B : Int) == 0) = false := by simp; omega
        have hb1 : ((B : Int) != 0) = true := by simp; omega
        clear hst hBe
        have uA : U64 A := by unfold U64; omega
        have uC : U64 C := by unfold U64; omega
        have hA0' : ((A : Int) == 0) = false := by simp; omega
        have hC0' : ((C : Int) == 0) = false := by simp; omega
        rcases Nat.lt_trichotomy A C with hlt | hlt | hlt
        · have hsub := sub_end (Nat.le_of_lt hlt) hCl
          have hand := and_one (C - A) (by omega) (by omega)
          have H2 := hide (HST.out A C (.inl ⟨rfl, rfl⟩) (by omega))
          have hDl : C - A < 18446744073709551616 := by omega
          have hDe : (C - A) % 2 = 0 := by omega
          generalize C - A = D at *
          go_wp2_with (first | (go_at_call 5; ((with_reducible refine HZ.out.mono ?_); rintro e w1 ⟨rfl, rfl⟩)) | (go_at_call 6; ((with_reducible refine (impl_Sub64 _ _ _ uC uA B1_0 _).mono ?_); rintro e w1 ⟨rfl, rfl⟩)))
          go_round
          case rel => exact ⟨A, S + 1, D, rfl, by go_num, rfl, hAl, hDl, hAo, .inr hDe, by omega, H2.out.2, H2.out.1⟩
          case measure => simp [intOf]; omega
        · obtain rfl := hlt
          have hsub := sub_end (Nat.le_refl A) hAl
          have hand := and_one (A - A) (by omega) (by omega)
          have H2 := hide (HST.out A A (.inl ⟨rfl, rfl⟩) (by omega))
          have hDl : A - A < 18446744073709551616 := by omega
          have hDe : (A - A) % 2 = 0 := by omega
          generalize A - A = D at *
          go_wp2_with (first | (go_at_call 5; ((with_reducible refine HZ.out.mono ?_); rintro e w1 ⟨rfl, rfl⟩)) | (go_at_call 6; ((with_reducible refine (impl_Sub64 _ _ _ uA uA B1_0 _).mono ?_); rintro e w1 ⟨rfl, rfl⟩)))
          go_round
          case rel => exact ⟨A, S + 1, D, rfl, by go_num, rfl, hAl, hDl, hAo, .inr hDe, by omega, H2.out.2, H2.out.1⟩
          case measure => simp [intOf]; omega
        · have hsub := sub_end (Nat.le_of_lt hlt) hAl
          have hand := and_one (A - C) (by omega) (by omega)
          have H2 := hide (HST.out C A (.inr ⟨rfl, rfl⟩) (by omega))
          have hDl : A - C < 18446744073709551616 := by omega
          have hDe : (A - C) % 2 = 0 := by omega
          generalize A - C = D at *
          go_wp2_with (first | (go_at_call 5; ((with_reducible refine HZ.out.mono ?_); rintro e w1 ⟨rfl, rfl⟩)) | (go_at_call 6; ((with_reducible refine (impl_Sub64 _ _ _ uA uC B1_0 _).mono ?_); rintro e w1 ⟨rfl, rfl⟩)))
          go_round
          case rel => exact ⟨C, S + 1, D, rfl, by go_num, rfl, hCl, hDl, hCo, .inr hDe, by omega, H2.out.2, H2.out.1⟩
          case measure => simp [intOf]; omega
theorem walk_FnCommon (x y : Int) (hx : U64 x) (hy : U64 y) (w : World) (hT : Tab w) :
    Calls Tryd.prog 3 #[.int .u64 x, .int .u64 y] w fun e w' => e = .returned (.bool true) ∧ Below w.heap.size w w' := by
  obtain ⟨hx0, hx1⟩ := hx
  obtain ⟨hy0, hy1⟩ := hy
  obtain ⟨X, rfl⟩ := Int.eq_ofNat_of_zero_le hx0
  obtain ⟨Y, rfl⟩ := Int.eq_ofNat_of_zero_le hy0
  have hX : X < 18446744073709551616 := by omega
  have hY : Y < 18446744073709551616 := by omega
  by_cases h : X = 0 ∨ Y = 0
  · exact walk_none X Y hX hY h w
  · have hX0 : X ≠ 0 := by omega
    have hY0 : Y ≠ 0 := by omega
    obtain ⟨hI, A0, hXe, hA0⟩ := ctz_parts hX0 hX
    obtain ⟨hJ, Y0, hYe, hY0o⟩ := ctz_parts hY0 hY
    obtain ⟨K, hK⟩ : ∃ K, (Lib.ctz 64 X < Lib.ctz 64 Y ∧ K = Lib.ctz 64 X) ∨ (Lib.ctz 64 X = Lib.ctz 64 Y ∧ K = Lib.ctz 64 X) ∨ (Lib.ctz 64 Y < Lib.ctz 64 X ∧ K = Lib.ctz 64 Y) := by
      rcases Nat.lt_trichotomy (Lib.ctz 64 X) (Lib.ctz 64 Y) with h | h | h
      · exact ⟨_, .inl ⟨h, rfl⟩⟩
      · exact ⟨_, .inr (.inl ⟨h, rfl⟩)⟩
      · exact ⟨_, .inr (.inr ⟨h, rfl⟩)⟩
    exact walk_core X Y _ _ K A0 Y0 hX hY hX0 hY0 w hT hI hJ rfl rfl hXe hA0 hYe hY0o hK
end Go.Proofs.YtejdolfgejlckaaDoor
