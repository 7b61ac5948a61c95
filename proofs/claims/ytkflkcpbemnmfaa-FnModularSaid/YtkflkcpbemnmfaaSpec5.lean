/- The contracts of the reference's Pair, Sum, Difference, Product, Quotient and Remainder. -/
import Derived.Test.YtkflkcpbemnmfaaSpec4
import Derived.Deep.QuietTactic
import Derived.BigQuiet
namespace Go.Proofs.Ytkflkcpbemnmfaa
open Go.RowKit
set_option linter.unusedVariables false

theorem bitI_one (c : Bool) : (bitI c == 1) = c := by cases c <;> rfl
theorem quiet_same {P : Program} {f : FuncId} {args : Array Value} {w : World} {n : Nat} {v : Value} (h : Calls P f args (w.drewN n) fun e w' => e = .returned v ∧ w.drewN n = w') :
    Calls P f args (w.drewN n) fun e w'' => e = .returned v ∧ ∃ m, w'' = w.drewN m := h.mono fun _ _ ⟨he, hm⟩ => ⟨he, n, hm.symm⟩
theorem Bits.drewN {w : World} {A : Option Addr} {N L : Nat} (h : Bits w A N L) (n : Nat) : Bits (w.drewN n) A N L := h
theorem below_drewN {B : Nat} {a w : World} (h : Below B a w) (n : Nat) : Below B a (w.drewN n) := ⟨h.os, h.tape, h.output, h.size, h.block⟩
set_option maxRecDepth 100000 in
set_option maxHeartbeats 2000000 in
theorem spec_Sum (W X Y : Nat) (cy : Bool) (w : World) (hW : W ≤ 64) (hX : X < 2 ^ W) (hY : Y < 2 ^ W) :
    Calls Try.prog 21 #[.int .i64 (W : Int), .int .u64 (X : Int), .int .u64 (Y : Int), .int .u64 (bitI cy)] w fun e w' =>
      e = .returned (.tuple #[.int .u64 (((X + Y + bitN cy) % 2 ^ W : Nat) : Int), .int .u64 (((X + Y + bitN cy) / 2 ^ W : Nat) : Int)]) ∧ Below w.heap.size w w' := by
  have hp := Nat.pow_le_pow_right (n := 2) (by omega) hW
  have hX64 : X < 18446744073709551616 := by omega
  have hY64 : Y < 18446744073709551616 := by omega
  have h1 := bitI_one cy
  have HX := hide hX
  have HY := hide hY
  clear hX hY hp
  go_enter Try.func21, Try.ntmps21
  go_wp2_with fail
  with_reducible refine (spec_Of X W _ hX64 (by omega)).mono ?_
  rintro e w1 ⟨A1, c1, rfl, hc1, R1, B1⟩
  go_wp2_with fail
  with_reducible refine (spec_Of Y W _ hY64 (by omega)).mono ?_
  rintro e w2 ⟨A2, c2, rfl, hc2, R2, B2⟩
  go_wp2_with fail
  have hP := spec_Plus A1 A2 c1 c2 X Y W W cy w2 (R1.bits.below B2) R2.bits HX.out HY.out (by omega) (by omega)
  rw [Nat.max_self] at hP
  with_reducible refine hP.mono ?_
  rintro e w3 ⟨A3, c3, rfl, hc3, R3, B3⟩
  clear hP
  have hS : X + Y + bitN cy < 2 ^ (W + 1) := by
    have := bitN_le cy
    have := HX.out
    have := HY.out
    rw [Nat.pow_succ]
    omega
  generalize hSe : X + Y + bitN cy = S at *
  have HSe := hide hSe
  have HS := hide hS
  clear hSe hS
  have hne : ¬ c3 = W := by omega
  have hle : W ≤ c3 := by omega
  have hb1 : Bits w3 A3 (S % 2 ^ W) W := (R3.bits.take (by omega)).congr fun i hi => by simp [Nat.testBit_mod_two_pow, hi]
  have hb2 : Bits w3 (A3.map (·.add W)) (S / 2 ^ W) 1 := by have h := R3.bits.drop (k := W) (by omega); rwa [Nat.add_sub_cancel_left] at h
  have hl1 : S % 2 ^ W < 2 ^ W := Nat.mod_lt _ (Nat.two_pow_pos W)
  have hl2 : S / 2 ^ W < 2 ^ 1 := by
    rw [Nat.div_lt_iff_lt_mul (Nat.two_pow_pos W), Nat.mul_comm, ← Nat.pow_succ]
    exact HS.out
  have hl3 : S % 2 ^ W < 18446744073709551616 := Nat.lt_of_lt_of_le hl1 (Nat.pow_le_pow_right (by omega) hW)
  have hl4 : S / 2 ^ W < 18446744073709551616 := by omega
  generalize hm : S % 2 ^ W = M at *
  generalize hd : S / 2 ^ W = D at *
  have HB1 := hide hb1
  have HB2 := hide hb2
  have HL1 := hide hl1
  have HL2 := hide hl2
  have HM := hide hm
  have HD := hide hd
  clear hb1 hb2 hl1 hl2 hm hd
  have hbb : Below w.heap.size w w3 := bt (bt B1 B2) B3
  clear B1 B2 B3 R1 R2 R3
  go_wp2_with fail
  go_quiet ((go_at_call 38; first | (with_reducible exact quiet_same (spec_Value A3 c3 M W _ (HB1.out.drewN _) hl3 HL1.out (by omega))) | (with_reducible exact quiet_same (spec_Value (A3.map (·.add W)) (c3 - W) D 1 _ (HB2.out.drewN _) hl4 HL2.out (by omega)))))
  go_wp2_with fail
  go_ret2
  exact ⟨ret2 (by rw [HSe.out, HM.out]) (by rw [HSe.out, HD.out]), below_drewN hbb _⟩
set_option maxRecDepth 100000 in
set_option maxHeartbeats 2000000 in
theorem spec_Product (W X Y : Nat) (w : World) (hW : W ≤ 64) (hW1 : 1 ≤ W) (hX : X < 2 ^ W) (hY : Y < 2 ^ W) :
    Calls Try.prog 16 #[.int .i64 (W : Int), .int .u64 (X : Int), .int .u64 (Y : Int)] w fun e w' =>
      e = .returned (.tuple #[.int .u64 ((X * Y / 2 ^ W : Nat) : Int), .int .u64 ((X * Y % 2 ^ W : Nat) : Int)]) ∧ Below w.heap.size w w' := by
  have hp := Nat.pow_le_pow_right (n := 2) (by omega) hW
  have hX64 : X < 18446744073709551616 := by omega
  have hY64 : Y < 18446744073709551616 := by omega
  have HX := hide hX
  have HY := hide hY
  clear hX hY hp
  go_enter Try.func16, Try.ntmps16
  go_wp2_with fail
  with_reducible refine (spec_Of X W _ hX64 (by omega)).mono ?_
  rintro e w1 ⟨A1, c1, rfl, hc1, R1, B1⟩
  go_wp2_with fail
  with_reducible refine (spec_Of Y W _ hY64 (by omega)).mono ?_
  rintro e w2 ⟨A2, c2, rfl, hc2, R2, B2⟩
  go_wp2_with fail
  with_reducible refine (spec_Times A1 A2 c1 c2 X Y W W w2 (R1.bits.below B2) R2.bits HX.out HY.out (by omega) (by omega)).mono ?_
  rintro e w3 ⟨A3, c3, rfl, hc3, R3, B3⟩
  have hS : X * Y < 2 ^ (W + W) := times_lt HX.out HY.out
  generalize hSe : X * Y = S at *
  have HSe := hide hSe
  have HS := hide hS
  clear hSe hS
  have hne : ¬ c3 = W := by omega
  have hle : W ≤ c3 := by omega
  have hb1 : Bits w3 A3 (S % 2 ^ W) W := (R3.bits.take (by omega)).congr fun i hi => by simp [Nat.testBit_mod_two_pow, hi]
  have hb2 : Bits w3 (A3.map (·.add W)) (S / 2 ^ W) W := by have h := R3.bits.drop (k := W) (by omega); rwa [Nat.add_sub_cancel_left] at h
  have hl1 : S % 2 ^ W < 2 ^ W := Nat.mod_lt _ (Nat.two_pow_pos W)
  have hl2 : S / 2 ^ W < 2 ^ W := by
    rw [Nat.div_lt_iff_lt_mul (Nat.two_pow_pos W), ← Nat.pow_add]
    exact HS.out
  have hl3 : S % 2 ^ W < 18446744073709551616 := Nat.lt_of_lt_of_le hl1 (Nat.pow_le_pow_right (by omega) hW)
  have hl4 : S / 2 ^ W < 18446744073709551616 := Nat.lt_of_lt_of_le hl2 (Nat.pow_le_pow_right (by omega) hW)
  generalize hm : S % 2 ^ W = M at *
  generalize hd : S / 2 ^ W = D at *
  have HB1 := hide hb1
  have HB2 := hide hb2
  have HL1 := hide hl1
  have HL2 := hide hl2
  have HM := hide hm
  have HD := hide hd
  clear hb1 hb2 hl1 hl2 hm hd
  have hbb : Below w.heap.size w w3 := bt (bt B1 B2) B3
  clear B1 B2 B3 R1 R2 R3
  go_wp2_with fail
  go_quiet ((go_at_call 38; first | (with_reducible exact quiet_same (spec_Value A3 c3 M W _ (HB1.out.drewN _) hl3 HL1.out (by omega))) | (with_reducible exact quiet_same (spec_Value (A3.map (·.add W)) (c3 - W) D W _ (HB2.out.drewN _) hl4 HL2.out (by omega)))))
  go_wp2_with fail
  go_ret2
  exact ⟨ret2 (by rw [HSe.out, HD.out]) (by rw [HSe.out, HM.out]), below_drewN hbb _⟩
theorem Bits.grown {w w' : World} {A : Option Addr} {N L : Nat} {row : Option Nat} (h : Bits w A N L) (hg : w.grownBy w' row) (hne : ∀ b o, A = some ⟨b, o, none⟩ → some b ≠ row) : Bits w' A N L := fun hL => by
  obtain ⟨b, o, rfl, hlt, hc⟩ := h hL
  exact ⟨b, o, rfl, Nat.lt_of_lt_of_le hlt hg.size, fun i hi => hg.cell (hc i hi) (hne b o rfl)⟩
theorem own_sep {w1 w2 w3 : World} {base N L N' L' c c' : Nat} {A A' : Option Addr} (h1 : Own w1 base (.slice A L c) N L) (h3 : Own w3 w2.heap.size (.slice A' L' c') N' L') (hL : 0 < L') (hz : w1.heap.size ≤ w2.heap.size) :
    ∀ b o, A' = some ⟨b, o, none⟩ → some b ≠ (Value.slice A L c).ownBlock := by
  intro b o hA he
  obtain ⟨g, hg, hg1, _⟩ := h3.at_ hL
  rw [hg] at hA
  injection hA with hA
  injection hA with hb
  have := (World.ownsRow.lt h1 b he.symm).2
  omega
/-- 1 if x is less than y and the borrow. -/
def borN (X Y c : Nat) : Nat := if X < Y + c then 1 else 0
set_option maxRecDepth 100000 in
set_option maxHeartbeats 2000000 in
theorem spec_Difference (W X Y : Nat) (cy : Bool) (w : World) (hW : W ≤ 64) (hW1 : 1 ≤ W) (hX : X < 2 ^ W) (hY : Y < 2 ^ W) :
    Calls Try.prog 23 #[.int .i64 (W : Int), .int .u64 (X : Int), .int .u64 (Y : Int), .int .u64 (bitI cy)] w fun e w' =>
      e = .returned (.tuple #[.int .u64 ((X + borN X Y (bitN cy) * 2 ^ W - (Y + bitN cy) : Nat) : Int), .int .u64 (borN X Y (bitN cy) : Nat)]) ∧ Below w.heap.size w w' := by
  obtain ⟨i0, hi, hz0, hz1, hz2⟩ := info_parts bool_info
  have hp := Nat.pow_le_pow_right (n := 2) (by omega) hW
  have hX64 : X < 18446744073709551616 := by omega
  have hY64 : Y < 18446744073709551616 := by omega
  have h1 := bitI_one cy
  have hcy := bitN_le cy
  have HX := hide hX
  have HY := hide hY
  have HP := hide hp
  have hYc : Hid (Y + bitN cy < 2 ^ (W + 1)) := by
    unfold Hid
    rw [Nat.pow_succ]
    omega
  clear hX hY hp
  go_enter Try.func23, Try.ntmps23
  go_wp2_with fail
  with_reducible refine (spec_Of X W _ hX64 (by omega)).mono ?_
  rintro e w1 ⟨A1, c1, rfl, hc1, R1, B1⟩
  go_wp2_with fail
  with_reducible refine (spec_Of Y W _ hY64 (by omega)).mono ?_
  rintro e w2 ⟨A2, c2, rfl, hc2, R2, B2⟩
  go_wp2_with fail
  have hP := spec_Plus A2 none c2 0 Y 0 W 0 cy w2 R2.bits (Bits.none_ _ _ _) HY.out (by simp) (by omega) (by omega)
  rw [Nat.max_eq_left (Nat.zero_le _), Nat.add_zero] at hP
  with_reducible refine hP.mono ?_
  rintro e w3 ⟨A3, c3, rfl, hc3, R3, B3⟩
  clear hP
  have hbb : Below w.heap.size w w3 := bt (bt B1 B2) B3
  have O1 := hide ((R1.below B2).below B3)
  have O3 := hide R3.bits
  have hsep := hide (own_sep R1 R3 (by omega) B2.size)
  clear R1 R2 R3 B1 B2 B3
  go_wp2_with fail
  with_reducible refine (spec_Compare A1 A3 c1 c3 X (Y + bitN cy) W (W + 1) w3 O1.out.bits O3.out HX.out hYc.out (by omega) (by omega)).mono ?_
  rintro e w4 ⟨rfl, rfl⟩
  by_cases hlt : X < Y + bitN cy
  · have hcmp := cmp_lt hlt
    have hbor : borN X Y (bitN cy) = 1 := by unfold borN; rw [if_pos hlt]
    have HBor := hide hbor
    have Hlt := hide hlt
    clear hbor hlt
    have hA1 : Hid (X + 2 ^ W * 1 < 2 ^ (W + 1)) := by
      unfold Hid
      have := HX.out
      rw [Nat.pow_succ]
      omega
    have hd : Hid (X + 2 ^ W * 1 - (Y + bitN cy) < 2 ^ W) := by
      unfold Hid
      have := HX.out
      have := Hlt.out
      omega
    have hsrc : ∀ t : World, Bits (t.alloc (.cells #[.bool true] 4)) (some ⟨t.heap.size, 0, none⟩) 1 1 := fun t => (Own.one_ t t.heap.size true (Nat.le_refl _)).bits
    have Hsrc := hide hsrc
    clear hsrc
    have hal : Hid (Below w3.heap.size w3 (w3.alloc (.cells #[.bool true] 4))) := (Below.refl _ _).alloc (Nat.le_refl _) _
    go_wp2_with (at_builtin; refine wpList_append_bits _ rfl _ _ rfl w.heap.size W X 1 1 1 _ (some ⟨w3.heap.size, 0, none⟩) rfl rfl (O1.out.below hal.out) HX.out (Hsrc.out w3) (by omega) (bt hbb hal.out).size ?_; intro A5 c5 w5 hc5 R5 hgrow5; have hb5 : Below w.heap.size w w5 := (bt hbb hal.out).grown hgrow5 (bt hbb hal.out).size (fun g hg => (World.ownsRow.lt (O1.out.below hal.out) g hg).1))
    have O5 := (O3.out.below hal.out).grown hgrow5 hsep.out
    with_reducible refine (spec_Minus A5 A3 c5 c3 (X + 2 ^ W * 1) (Y + bitN cy) (W + 1) (W + 1) w5 R5.bits O5 hYc.out (by omega) (by omega) (by have := Hlt.out; have := HY.out; omega)).mono ?_
    rintro e w6 ⟨A6, c6, rfl, hc6, R6, B6⟩
    have hle : W ≤ c6 := by omega
    clear hc6 O5
    go_wp2_with fail
    with_reducible refine (spec_Value A6 c6 (X + 2 ^ W * 1 - (Y + bitN cy)) W w6 (R6.bits.take (by omega)) (Nat.lt_of_lt_of_le hd.out HP.out) hd.out (by omega)).mono ?_
    rintro e w7 ⟨rfl, rfl⟩
    go_wp2_with fail
    go_ret2
    exact ⟨ret2 (by rw [HBor.out]; simp) (by rw [HBor.out]; rfl), bt hb5 B6⟩
  · have hcmp := cmp_ge (Nat.le_of_not_lt hlt)
    have hbor : borN X Y (bitN cy) = 0 := by unfold borN; rw [if_neg hlt]
    have HBor := hide hbor
    have Hlt := hide (Nat.le_of_not_lt hlt)
    have hd : Hid (X - (Y + bitN cy) < 2 ^ W) := by unfold Hid; have := HX.out; omega
    clear hbor hlt
    go_wp2_with fail
    with_reducible refine (spec_Minus A1 A3 c1 c3 X (Y + bitN cy) W (W + 1) w3 O1.out.bits O3.out hYc.out (by omega) (by omega) Hlt.out).mono ?_
    rintro e w5 ⟨A5, c5, rfl, hc5, R5, B5⟩
    go_wp2_with fail
    with_reducible refine (spec_Value A5 c5 (X - (Y + bitN cy)) W w5 R5.bits (Nat.lt_of_lt_of_le hd.out HP.out) hd.out (by omega)).mono ?_
    rintro e w6 ⟨rfl, rfl⟩
    go_wp2_with fail
    go_ret2
    exact ⟨ret2 (by rw [HBor.out]; simp) (by rw [HBor.out]; rfl), bt hbb B5⟩
set_option maxRecDepth 100000 in
set_option maxHeartbeats 2000000 in
theorem spec_Pair (W H L : Nat) (w : World) (hW : W ≤ 64) (hH : H < 18446744073709551616) (hL : L < 18446744073709551616) (hL' : L < 2 ^ W) :
    Calls Try.prog 44 #[.int .i64 (W : Int), .int .u64 (H : Int), .int .u64 (L : Int)] w (RetOwn w (L + 2 ^ W * H) (W + W)) := by
  have HL := hide hL'
  clear hL'
  go_enter Try.func44, Try.ntmps44
  go_wp2_with fail
  with_reducible refine (spec_Of L W _ hL (by omega)).mono ?_
  rintro e w1 ⟨A1, c1, rfl, hc1, R1, B1⟩
  go_wp2_with fail
  with_reducible refine (spec_Of H W _ hH (by omega)).mono ?_
  rintro e w2 ⟨A2, c2, rfl, hc2, R2, B2⟩
  have hR1 := hide (R1.below B2)
  have hR2 := hide R2.bits
  have hbb := hide (bt B1 B2)
  clear R1 R2 B1 B2
  go_wp2_with (at_builtin; refine wpList_append_bits _ rfl _ _ rfl w.heap.size W L W c2 H _ A2 rfl rfl hR1.out HL.out hR2.out (by omega) hbb.out.size ?_; intro A5 c5 w5 hc5 R5 hgrow5; have hb5 : Below w.heap.size w w5 := hbb.out.grown hgrow5 hbb.out.size (fun g hg => (World.ownsRow.lt hR1.out g hg).1))
  go_ret
  exact ⟨A5, c5, rfl, hc5, R5, hb5⟩
theorem pair_lt {W H L : Nat} (hH : H < 2 ^ W) (hL : L < 2 ^ W) : L + 2 ^ W * H < 2 ^ (W + W) := by
  rw [Nat.pow_add]
  have h := Nat.mul_le_mul_left (2 ^ W) (show H + 1 ≤ 2 ^ W by omega)
  rw [Nat.mul_add] at h
  omega
set_option maxRecDepth 100000 in
set_option maxHeartbeats 2000000 in
theorem spec_Remainder (W H L D : Nat) (w : World) (hW : W ≤ 64) (hH : H < 2 ^ W) (hL : L < 2 ^ W) (hD : D < 2 ^ W) (hD0 : 0 < D) :
    Calls Try.prog 18 #[.int .i64 (W : Int), .int .u64 (H : Int), .int .u64 (L : Int), .int .u64 (D : Int)] w fun e w' =>
      e = .returned (.tuple #[.int .u64 (((L + 2 ^ W * H) % D : Nat) : Int), .bool true]) ∧ Below w.heap.size w w' := by
  have hp := Nat.pow_le_pow_right (n := 2) (by omega) hW
  have hH64 : H < 18446744073709551616 := by omega
  have hL64 : L < 18446744073709551616 := by omega
  have hD64 : D < 18446744073709551616 := by omega
  have hz : ((D : Int) == 0) = false := by simp; omega
  have HH := hide hH
  have HL := hide hL
  have HD := hide hD
  have HP := hide hp
  have HD0 := hide hD0
  clear hH hL hD hp hD0
  go_enter Try.func18, Try.ntmps18
  go_wp2_with fail
  with_reducible refine (spec_Pair W H L _ hW hH64 hL64 HL.out).mono ?_
  rintro e w1 ⟨A1, c1, rfl, hc1, R1, B1⟩
  go_wp2_with fail
  with_reducible refine (spec_Of D W _ hD64 (by omega)).mono ?_
  rintro e w2 ⟨A2, c2, rfl, hc2, R2, B2⟩
  go_wp2_with fail
  with_reducible refine (spec_Over A1 A2 c1 c2 (L + 2 ^ W * H) D (W + W) W w2 (R1.bits.below B2) R2.bits (pair_lt HH.out HL.out) HD.out (by omega) (by omega) HD0.out).mono ?_
  rintro e w3 ⟨A3, c3, A4, c4, rfl, hc3, R3, R4, B3⟩
  have hm : (L + 2 ^ W * H) % D < D := Nat.mod_lt _ HD0.out
  have hm1 : (L + 2 ^ W * H) % D < 18446744073709551616 := by omega
  have hm2 : Hid ((L + 2 ^ W * H) % D < 2 ^ (W + W)) := by
    have := HD.out
    have h2 := Nat.pow_le_pow_right (n := 2) (by omega) (show W ≤ W + W by omega)
    unfold Hid
    omega
  have hR4 := hide R4
  have hbb := hide (bt (bt B1 B2) B3)
  clear R1 R2 R3 R4 B1 B2 B3 hm
  go_wp2_with fail
  with_reducible refine (spec_Value A4 c4 ((L + 2 ^ W * H) % D) (W + W) w3 hR4.out hm1 hm2.out (by omega)).mono ?_
  rintro e w4 ⟨rfl, rfl⟩
  go_wp2_with fail
  go_ret2
  exact ⟨rfl, hbb.out⟩
theorem spec_Remainder_zero (W : Nat) (H L : Int) (w : World) :
    Calls Try.prog 18 #[.int .i64 (W : Int), .int .u64 H, .int .u64 L, .int .u64 0] w fun e w' => e = .returned (.tuple #[.int .u64 0, .bool false]) ∧ w = w' := by
  go_enter Try.func18, Try.ntmps18
  go_wp2
  go_ret2
  exact ⟨rfl, rfl⟩
theorem ret3 {k l : IntKind} {a b c d : Int} {t : Bool} (h : a = c) (h' : b = d) : Ending.returned (.tuple #[.int k a, .int l b, .bool t]) = .returned (.tuple #[.int k c, .int l d, .bool t]) := by rw [h, h']
set_option maxRecDepth 100000 in
set_option maxHeartbeats 2000000 in
theorem spec_Quotient (W H L D : Nat) (w : World) (hW : W ≤ 64) (hH : H < 2 ^ W) (hL : L < 2 ^ W) (hD : D < 2 ^ W) (hlt : H < D) :
    Calls Try.prog 27 #[.int .i64 (W : Int), .int .u64 (H : Int), .int .u64 (L : Int), .int .u64 (D : Int)] w fun e w' =>
      e = .returned (.tuple #[.int .u64 (((L + 2 ^ W * H) / D : Nat) : Int), .int .u64 (((L + 2 ^ W * H) % D : Nat) : Int), .bool true]) ∧ Below w.heap.size w w' := by
  have hp := Nat.pow_le_pow_right (n := 2) (by omega) hW
  have hH64 : H < 18446744073709551616 := by omega
  have hL64 : L < 18446744073709551616 := by omega
  have hD64 : D < 18446744073709551616 := by omega
  have hz : ((D : Int) == 0) = false := by simp; omega
  have hle : ¬ (D : Int) ≤ H := by omega
  have hD0 : Hid (0 < D) := by unfold Hid; omega
  have HH := hide hH
  have HL := hide hL
  have HD := hide hD
  have HP := hide hp
  have Hlt := hide hlt
  clear hH hL hD hp hlt
  go_enter Try.func27, Try.ntmps27
  go_wp2_with fail
  with_reducible refine (spec_Pair W H L _ hW hH64 hL64 HL.out).mono ?_
  rintro e w1 ⟨A1, c1, rfl, hc1, R1, B1⟩
  go_wp2_with fail
  with_reducible refine (spec_Of D W _ hD64 (by omega)).mono ?_
  rintro e w2 ⟨A2, c2, rfl, hc2, R2, B2⟩
  go_wp2_with fail
  with_reducible refine (spec_Over A1 A2 c1 c2 (L + 2 ^ W * H) D (W + W) W w2 (R1.bits.below B2) R2.bits (pair_lt HH.out HL.out) HD.out (by omega) (by omega) hD0.out).mono ?_
  rintro e w3 ⟨A3, c3, A4, c4, rfl, hc3, R3, R4, B3⟩
  have hm : (L + 2 ^ W * H) % D < D := Nat.mod_lt _ hD0.out
  have hm1 : (L + 2 ^ W * H) % D < 18446744073709551616 := by omega
  have hm2 : Hid ((L + 2 ^ W * H) % D < 2 ^ (W + W)) := by
    have := HD.out
    have h2 := Nat.pow_le_pow_right (n := 2) (by omega) (show W ≤ W + W by omega)
    unfold Hid
    omega
  have hq : Hid ((L + 2 ^ W * H) / D < 2 ^ W) := by
    unfold Hid
    rw [Nat.div_lt_iff_lt_mul hD0.out]
    have h := Nat.mul_le_mul_left (2 ^ W) (show H + 1 ≤ D from Hlt.out)
    have := HL.out
    rw [Nat.mul_add] at h
    omega
  have hq1 : (L + 2 ^ W * H) / D < 18446744073709551616 := Nat.lt_of_lt_of_le hq.out HP.out
  have hR3 := hide (R3.take (k := W) (by omega))
  have hR4 := hide R4
  have hbb := hide (bt (bt B1 B2) B3)
  have hc3' : W ≤ c3 := by omega
  clear R1 R2 R3 R4 B1 B2 B3 hm hc3
  go_wp2_with fail
  with_reducible refine (spec_Value A3 c3 ((L + 2 ^ W * H) / D) W w3 hR3.out hq1 hq.out (by omega)).mono ?_
  rintro e w4 ⟨rfl, rfl⟩
  go_wp2_with fail
  with_reducible refine (spec_Value A4 c4 ((L + 2 ^ W * H) % D) (W + W) w3 hR4.out hm1 hm2.out (by omega)).mono ?_
  rintro e w4 ⟨rfl, rfl⟩
  go_wp2_with fail
  go_ret3
  exact ⟨rfl, hbb.out⟩
theorem spec_Quotient_no (W : Nat) (H L D : Int) (w : World) (h : D = 0 ∨ D ≤ H) (hH : 0 ≤ H) :
    Calls Try.prog 27 #[.int .i64 (W : Int), .int .u64 H, .int .u64 L, .int .u64 D] w fun e w' => e = .returned (.tuple #[.int .u64 0, .int .u64 0, .bool false]) ∧ w = w' := by
  by_cases h0 : D = 0
  · subst h0
    go_enter Try.func27, Try.ntmps27
    go_wp2
    go_ret3
    exact ⟨rfl, rfl⟩
  · have hz : (D == 0) = false := by simpa using h0
    have hle : D ≤ H := by omega
    clear h
    go_enter Try.func27, Try.ntmps27
    go_wp2
    go_ret3
    exact ⟨rfl, rfl⟩
end Go.Proofs.Ytkflkcpbemnmfaa
