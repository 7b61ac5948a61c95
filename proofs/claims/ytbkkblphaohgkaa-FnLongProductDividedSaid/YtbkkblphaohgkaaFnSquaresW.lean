/- The walk of the law FnSquares: out of the contracts of what it calls, it returns true; nothing that was in memory changes. -/
import Derived.Test.YtbkkblphaohgkaaLong3
import Derived.Test.YtbkkblphaohgkaaFnLongDifferenceW
import Derived.Deep.RegionHeld3
namespace Go.Proofs.Ytbkkblphaohgkaa
open Go.RowKit
set_option linter.unusedVariables false
set_option linter.unusedSimpArgs false
/-- A slice literal of one word: a new block of one cell. -/
theorem word_new (w : World) (X n : Nat) (hX : X < MM) (hn : n = w.heap.size) : Wds (w.alloc (.cells #[.int .u64 (X : Int)] 23)) (some ⟨n, 0, none⟩) X 1 := fun _ => by
  subst hn
  refine ⟨w.heap.size, 0, rfl, by simp, fun i hi => ?_⟩
  obtain rfl : i = 0 := by omega
  rw [World.cell?_alloc_at _ _ _ _ rfl]
  have : dig X 0 = X := by unfold dig; rw [Nat.pow_zero, Nat.div_one, Nat.mod_eq_of_lt hX]
  rw [this]; rfl
theorem below_alloc (w : World) (o : Obj) : Below w.heap.size w (w.alloc o) := (Below.refl _ _).alloc (Nat.le_refl _) o
theorem OwnW.cells {w : World} {base N L : Nat} {A : Option Addr} {c : Nat} (h : OwnW w base (.slice A L c) N L) (hL : 0 < L) : ∃ b, A = some ⟨b, 0, none⟩ ∧ b < w.heap.size ∧ ∀ i, i < L → w.cell? ⟨b, i, none⟩ = some (.int .u64 ((dig N i : Nat) : Int)) := by
  rcases h.2 with ⟨hv, h0⟩ | ⟨g, cap, cur, hv, hb, hh, hc, _⟩
  · omega
  · injection hv with hA _ hcap
    subst hA hcap
    have hlt : g < w.heap.size := by
      rcases Nat.lt_or_ge g w.heap.size with hlt | hge
      · exact hlt
      · rw [Array.getElem?_eq_none hge] at hh; cases hh
    refine ⟨g, rfl, hlt, fun i hi => ?_⟩
    rw [World.ownsRow.cellAt h i (by omega), wordsOf_get hi]
theorem lt_bitsS {N L : Nat} (h : N < MM ^ L) : N < 2 ^ (64 * L) := by rw [← MM_two]; exact h
/-- longSum of two numbers of one length, with no carry. -/
theorem longSumE (AA AB : Option Addr) (ca cb A B L M : Nat) (w : World) (hA : Wds w AA A L) (hB : Wds w AB B L) (hAl : A < MM ^ L) (hBl : B < MM ^ L) (hL : L ≤ 100) (hM : M = L + 1) :
    Calls Try.prog 15 #[.slice AA L ca, .slice AB L cb, .int .u64 0] w (RetW w (A + B) M) := by
  have h := laws_longSum AA AB ca cb A B 0 L L w hA hB hAl hBl (by omega) (by omega) (by omega)
  rw [Nat.max_self] at h
  subst hM
  exact h
theorem longProductE (AA AB : Option Addr) (ca cb A B L M : Nat) (w : World) (hA : Wds w AA A L) (hB : Wds w AB B L) (hAl : A < MM ^ L) (hBl : B < MM ^ L) (hL : L ≤ 100) (hM : M = L + L) :
    Calls Try.prog 17 #[.slice AA L ca, .slice AB L cb] w (RetW w (A * B) M) := by
  subst hM
  exact laws_longProduct AA AB ca cb A B L L w hA hB hAl hBl (by omega)
/-- The three lowest words of a number that is not 0 and less than 2^130 are not all 0. -/
theorem low_words {N : Nat} (h0 : 0 < N) (hN : N < 4 * MM ^ 2) : dig N 0 ≠ 0 ∨ dig N 1 ≠ 0 ∨ dig N 2 ≠ 0 := by
  unfold dig
  simp only [MM_eq] at *
  omega
theorem sum_ltS {A B L M : Nat} (hA : A < MM ^ L) (hB : B < MM ^ L) (hM : M = L + 1) : A + B < MM ^ M := by
  subst hM
  rw [Nat.pow_succ]
  have : MM ^ L * 2 ≤ MM ^ L * MM := Nat.mul_le_mul_left _ (by decide)
  omega
theorem prod_ltS {A B L M : Nat} (hA : A < MM ^ L) (hB : B < MM ^ L) (hM : M = L + L) : A * B < MM ^ M := by
  subst hM; rw [Nat.pow_add]; exact Nat.mul_lt_mul'' hA hB
theorem square_sum (X Y : Nat) : (X + Y) * (X + Y) = X * X + Y * Y + (X * Y + X * Y) := by
  rw [Nat.add_mul, Nat.mul_add, Nat.mul_add, Nat.mul_comm Y X]; omega
theorem square_lt {X Y : Nat} (hX : X < MM) (hY : Y < MM) : (X + Y) * (X + Y) < 4 * MM ^ 2 := by
  have : (X + Y) * (X + Y) < (2 * MM) * (2 * MM) := Nat.mul_lt_mul'' (by omega) (by omega)
  simp only [MM_eq] at *
  omega
/-- Or of words, one of which is not 0, is not 0. -/
theorem or_ne (a b c : Nat) (ha : a < 18446744073709551616) (hb : b < 18446744073709551616) (hc : c < 18446744073709551616) (h : a ≠ 0 ∨ b ≠ 0 ∨ c ≠ 0) : ¬ bits .or .u64 (bits .or .u64 (a : Int) (b : Int)) (c : Int) = 0 := by
  have b1 : a ||| b < 2 ^ 64 := Nat.or_lt_two_pow (by omega) (by omega)
  rw [u64_or_nat a b (by omega) (by omega), u64_or_nat _ c (by omega) (by omega)]
  intro h0
  have h1 : (a ||| b) ||| c = 0 := by exact_mod_cast h0
  rw [Nat.or_eq_zero_iff, Nat.or_eq_zero_iff] at h1
  omega
theorem words4 (A : Option Addr) (c N : Nat) (w : World) (hA : Wds w A N 4) (hN : N < MM ^ 4) :
    Calls Try.prog 12 #[.slice A 4 c] w (RetOwn w N 256) := spec_Words A c N 4 w hA hN (by omega)
set_option maxRecDepth 100000 in
set_option maxHeartbeats 2000000 in
theorem walk_FnSquares (x y : Int) (hx : U64 x) (hy : U64 y) (w : World) :
    Calls Try.prog 7 #[.int .u64 x, .int .u64 y] w fun e w' => e = .returned (.bool true) ∧ Below w.heap.size w w' := by
  obtain ⟨X, rfl⟩ : ∃ X : Nat, x = X := ⟨x.toNat, by have := hx.1; omega⟩
  obtain ⟨Y, rfl⟩ : ∃ Y : Nat, y = Y := ⟨y.toNat, by have := hy.1; omega⟩
  have HX : Hid (X < MM ^ 1) := by unfold Hid; have := hx.2; rw [Nat.pow_one, MM_eq]; omega
  have HY : Hid (Y < MM ^ 1) := by unfold Hid; have := hy.2; rw [Nat.pow_one, MM_eq]; omega
  have HX0 : Hid (X < MM) := by unfold Hid; have := hx.2; rw [MM_eq]; omega
  have HY0 : Hid (Y < MM) := by unfold Hid; have := hy.2; rw [MM_eq]; omega
  clear hx hy
  go_enter Try.func7, Try.ntmps7
  go_wp2_with fail
  with_reducible refine (longSumE _ _ 1 1 X Y 1 2 _ ((word_new w X _ HX0.out rfl).below (below_alloc _ _)) (word_new _ Y _ HY0.out (by simp)) HX.out HY.out (by omega) rfl).mono ?_
  rintro e w1 ⟨A1, c1, rfl, hc1, R1, B1⟩
  have B1' : Below w.heap.size w w1 := bt (bt (below_alloc _ _) (below_alloc _ _)) B1
  have HS : Hid (X + Y < MM ^ 2) := sum_ltS HX.out HY.out rfl
  clear B1
  go_wp2_with fail
  with_reducible refine (longProductE _ _ c1 c1 (X + Y) (X + Y) 2 4 _ R1.bits R1.bits HS.out HS.out (by omega) rfl).mono ?_
  rintro e w2 ⟨A2, c2, rfl, hc2, R2, B2⟩
  have HL : Hid ((X + Y) * (X + Y) < MM ^ 4) := prod_ltS HS.out HS.out rfl
  go_wp2_with fail
  with_reducible refine (longProductE _ _ 1 1 X Y 1 2 _ ((word_new w2 X _ HX0.out rfl).below (below_alloc _ _)) (word_new _ Y _ HY0.out (by simp)) HX.out HY.out (by omega) rfl).mono ?_
  rintro e w3 ⟨A3, c3, rfl, hc3, R3, B3⟩
  have HP : Hid (X * Y < MM ^ 2) := prod_ltS HX.out HY.out rfl
  have B3' : Below w2.heap.size w2 w3 := bt (bt (below_alloc _ _) (below_alloc _ _)) B3
  clear B3
  go_wp2_with fail
  with_reducible refine (longProductE _ _ 1 1 X X 1 2 _ ((word_new w3 X _ HX0.out rfl).below (below_alloc _ _)) (word_new _ X _ HX0.out (by simp)) HX.out HX.out (by omega) rfl).mono ?_
  rintro e w4 ⟨A4, c4, rfl, hc4, R4, B4⟩
  have HP4 : Hid (X * X < MM ^ 2) := prod_ltS HX.out HX.out rfl
  have B4' : Below w3.heap.size w3 w4 := bt (bt (below_alloc _ _) (below_alloc _ _)) B4
  clear B4
  go_wp2_with fail
  with_reducible refine (longProductE _ _ 1 1 Y Y 1 2 _ ((word_new w4 Y _ HY0.out rfl).below (below_alloc _ _)) (word_new _ Y _ HY0.out (by simp)) HY.out HY.out (by omega) rfl).mono ?_
  rintro e w5 ⟨A5, c5, rfl, hc5, R5, B5⟩
  have HP5 : Hid (Y * Y < MM ^ 2) := prod_ltS HY.out HY.out rfl
  have B5' : Below w4.heap.size w4 w5 := bt (bt (below_alloc _ _) (below_alloc _ _)) B5
  clear B5
  go_wp2_with fail
  with_reducible refine (longSumE _ _ c4 c5 (X * X) (Y * Y) 2 3 _ (R4.bits.below B5') R5.bits HP4.out HP5.out (by omega) rfl).mono ?_
  rintro e w6 ⟨A6, c6, rfl, hc6, R6, B6⟩
  have HS6 : Hid (X * X + Y * Y < MM ^ 3) := sum_ltS HP4.out HP5.out rfl
  go_wp2_with fail
  have B36 : Below w3.heap.size w3 w6 := bt (bt B4' B5') B6
  with_reducible refine (longSumE _ _ c3 c3 (X * Y) (X * Y) 2 3 _ (R3.bits.below B36) (R3.bits.below B36) HP.out HP.out (by omega) rfl).mono ?_
  rintro e w7 ⟨A7, c7, rfl, hc7, R7, B7⟩
  have HS7 : Hid (X * Y + X * Y < MM ^ 3) := sum_ltS HP.out HP.out rfl
  go_wp2_with fail
  with_reducible refine (longSumE _ _ c6 c7 (X * X + Y * Y) (X * Y + X * Y) 3 4 _ (R6.bits.below B7) R7.bits HS6.out HS7.out (by omega) rfl).mono ?_
  rintro e w8 ⟨A8, c8, rfl, hc8, R8, B8⟩
  have HR : Hid (X * X + Y * Y + (X * Y + X * Y) < MM ^ 4) := sum_ltS HS6.out HS7.out rfl
  have B28 : Below w2.heap.size w2 w8 := bt B3' (bt (bt B36 B7) B8)
  have B08 : Below w.heap.size w w8 := bt B1' (bt B2 B28)
  have R2' := R2.below B28
  clear B1' B2 B3' B4' B5' B6 B36 B7 B8 R1 R3 R4 R5 R6 R7 HP HP4 HP5 HS6 HS7 HS R2 B28
  obtain ⟨b, rfl, hb, hcs⟩ := R2'.cells (by omega)
  have HC0 := hide (hcs 0 (by omega))
  have HC1 := hide (hcs 1 (by omega))
  have HC2 := hide (hcs 2 (by omega))
  clear hcs
  have HW := hide R2'.bits
  have HW8 := hide R8.bits
  have hd0 := dig_lt ((X + Y) * (X + Y)) 0
  have hd1 := dig_lt ((X + Y) * (X + Y)) 1
  have hd2 := dig_lt ((X + Y) * (X + Y)) 2
  have HNE : Hid (0 < X → ¬ bits .or .u64 (bits .or .u64 ((dig ((X + Y) * (X + Y)) 0 : Nat) : Int) ((dig ((X + Y) * (X + Y)) 1 : Nat) : Int)) ((dig ((X + Y) * (X + Y)) 2 : Nat) : Int) = 0) := by
    intro h0
    exact or_ne _ _ _ hd0 hd1 hd2 (low_words (Nat.mul_pos (by omega) (by omega)) (square_lt HX0.out HY0.out))
  have HEQ := hide (square_sum X Y)
  clear R2' R8
  go_wp2_with fail
  generalize hN : (X + Y) * (X + Y) = N at *
  generalize hM : X * X + Y * Y + (X * Y + X * Y) = M at *
  clear hN hM
  generalize dig N 0 = d0 at *
  generalize dig N 1 = d1 at *
  generalize dig N 2 = d2 at *
  have HB08 := hide B08
  clear B08
  by_cases hX : X = 0
  · have hx0 : decide (X = 0) = true := by simpa using hX
    subst hX
    refine wp_region_held_drew (S := fun _ => True) (by kernel_rfl) trivial (fun hHeld => ?_)
    refine wpAnyH_take (i := 0) (v := (.slice (some ⟨b, 0, none⟩) 4 c2)) rfl (by kernel_rfl) (by kernel_rfl) (by kernel_rfl) (fun _ _ _ h => h) (Or.inl ⟨by rfl, by intro w hSw; go_simp⟩) trivial ?_
    try simp only [Act.put, List.setIfInBounds_toArray, List.set_cons_zero, List.set_cons_succ, List.getElem_toArray, List.getElem_cons_succ, List.getElem_cons_zero]
    refine wpAnyH_take (i := 2) (v := (.slice A8 4 c8)) rfl (by kernel_rfl) (by kernel_rfl) (by kernel_rfl) (fun _ _ _ h => h) (Or.inl ⟨by rfl, by intro w hSw; go_simp⟩) trivial ?_
    try simp only [Act.put, List.setIfInBounds_toArray, List.set_cons_zero, List.set_cons_succ, List.getElem_toArray, List.getElem_cons_succ, List.getElem_cons_zero]
    refine wpAnyH_ready (rs := [1]) (by kernel_rfl) (by simp) ?_
    refine AllReadyH.cons rfl (fun K hK => ?_) AllReadyH.nil
    go_simp
    ((with_reducible refine (words4 (some ⟨b, 0, none⟩) c2 N _ HW.out.drew HL.out).mono ?_)); rintro e w9 ⟨A9, c9, rfl, hc9, R9, B9⟩
    refine hK.out _ _ trivial (fun hHeld => ?_)
    clear hK K
    try simp only [Act.put, List.setIfInBounds_toArray, List.set_cons_zero, List.set_cons_succ, List.getElem_toArray, List.getElem_cons_succ, List.getElem_cons_zero]
    refine wpAnyH_ready (rs := [3]) (by kernel_rfl) (by simp) ?_
    refine AllReadyH.cons rfl (fun K hK => ?_) AllReadyH.nil
    go_simp
    ((with_reducible refine (words4 A8 c8 M _ (HW8.out.drew.below B9) HR.out).mono ?_)); rintro e w10 ⟨A10, c10, rfl, hc10, R10, B10⟩
    refine hK.out _ _ trivial (fun hHeld => ?_)
    clear hK K
    try simp only [Act.put, List.setIfInBounds_toArray, List.set_cons_zero, List.set_cons_succ, List.getElem_toArray, List.getElem_cons_succ, List.getElem_cons_zero]
    refine wpAnyH_ready (rs := [4]) (by kernel_rfl) (by simp) ?_
    refine AllReadyH.cons rfl (fun K hK => ?_) AllReadyH.nil
    go_simp
    ((with_reducible refine (spec_Equal A9 A10 c9 c10 N M 256 256 _ (R9.bits.below B10) R10.bits (lt_bitsS HL.out) (lt_bitsS HR.out) (by omega) (by omega) HEQ.out).mono ?_)); rintro e w11 ⟨rfl, rfl⟩
    refine hK.out _ _ trivial (fun hHeld => ?_)
    clear hK K
    try simp only [Act.put, List.setIfInBounds_toArray, List.set_cons_zero, List.set_cons_succ, List.getElem_toArray, List.getElem_cons_succ, List.getElem_cons_zero]
    refine wpAnyH_take (i := 5) (v := (.bool true)) rfl (by kernel_rfl) (by kernel_rfl) (by kernel_rfl) (fun _ _ _ h => h) (Or.inl ⟨by rfl, by intro w hSw; go_simp⟩) trivial ?_
    try simp only [Act.put, List.setIfInBounds_toArray, List.set_cons_zero, List.set_cons_succ, List.getElem_toArray, List.getElem_cons_succ, List.getElem_cons_zero]
    refine wpAnyH_take (i := 6) (v := (.slice (some ⟨b, 0, none⟩) 4 c2)) rfl (by kernel_rfl) (by kernel_rfl) (by kernel_rfl) (fun _ _ _ h => h) (Or.inl ⟨by rfl, by intro w hSw; go_simp⟩) trivial ?_
    try simp only [Act.put, List.setIfInBounds_toArray, List.set_cons_zero, List.set_cons_succ, List.getElem_toArray, List.getElem_cons_succ, List.getElem_cons_zero]
    refine wpAnyH_take (i := 7) (v := (.int .i64 4)) rfl (by kernel_rfl) (by kernel_rfl) (by kernel_rfl) (fun _ _ _ h => h) (Or.inl ⟨by rfl, by intro w hSw; go_simp⟩) trivial ?_
    try simp only [Act.put, List.setIfInBounds_toArray, List.set_cons_zero, List.set_cons_succ, List.getElem_toArray, List.getElem_cons_succ, List.getElem_cons_zero]
    refine wpAnyH_take (i := 8) (v := (.bool true)) rfl (by kernel_rfl) (by kernel_rfl) (by kernel_rfl) (fun _ _ _ h => h) (Or.inl ⟨by rfl, by intro w hSw; go_simp⟩) trivial ?_
    try simp only [Act.put, List.setIfInBounds_toArray, List.set_cons_zero, List.set_cons_succ, List.getElem_toArray, List.getElem_cons_succ, List.getElem_cons_zero]
    refine wpAnyH_take (i := 9) (v := (.bool true)) rfl (by kernel_rfl) (by kernel_rfl) (by kernel_rfl) (fun _ _ _ h => h) (Or.inl ⟨by rfl, by intro w hSw; go_simp⟩) trivial ?_
    try simp only [Act.put, List.setIfInBounds_toArray, List.set_cons_zero, List.set_cons_succ, List.getElem_toArray, List.getElem_cons_succ, List.getElem_cons_zero]
    refine wpAnyH_take (i := 10) (v := (.bool true)) rfl (by kernel_rfl) (by kernel_rfl) (by kernel_rfl) (fun _ _ _ h => h) (Or.inl ⟨by rfl, by intro w hSw; go_simp⟩) trivial ?_
    try simp only [Act.put, List.setIfInBounds_toArray, List.set_cons_zero, List.set_cons_succ, List.getElem_toArray, List.getElem_cons_succ, List.getElem_cons_zero]
    refine wpAnyH_take (i := 11) (v := (.int .u64 ((0 : Nat) : Int))) rfl (by kernel_rfl) (by kernel_rfl) (by kernel_rfl) (fun _ _ _ h => h) (Or.inl ⟨by rfl, by intro w hSw; go_simp⟩) trivial ?_
    try simp only [Act.put, List.setIfInBounds_toArray, List.set_cons_zero, List.set_cons_succ, List.getElem_toArray, List.getElem_cons_succ, List.getElem_cons_zero]
    refine wpAnyH_take (i := 12) (v := (.bool true)) rfl (by kernel_rfl) (by kernel_rfl) (by kernel_rfl) (fun _ _ _ h => h) (Or.inl ⟨by rfl, by intro w hSw; go_simp⟩) trivial ?_
    try simp only [Act.put, List.setIfInBounds_toArray, List.set_cons_zero, List.set_cons_succ, List.getElem_toArray, List.getElem_cons_succ, List.getElem_cons_zero]
    refine wpAnyH_take (i := 13) (v := (.bool true)) rfl (by kernel_rfl) (by kernel_rfl) (by kernel_rfl) (fun _ _ _ h => h) (Or.inl ⟨by rfl, by intro w hSw; go_simp⟩) trivial ?_
    try simp only [Act.put, List.setIfInBounds_toArray, List.set_cons_zero, List.set_cons_succ, List.getElem_toArray, List.getElem_cons_succ, List.getElem_cons_zero]
    refine wpAnyH_take (i := 14) (v := undef) rfl (by kernel_rfl) (by kernel_rfl) (by kernel_rfl) (fun _ _ _ h => h) (Or.inr ⟨by rfl, rfl⟩) trivial ?_
    try simp only [Act.put, List.setIfInBounds_toArray, List.set_cons_zero, List.set_cons_succ, List.getElem_toArray, List.getElem_cons_succ, List.getElem_cons_zero]
    refine wpAnyH_take (i := 15) (v := undef) rfl (by kernel_rfl) (by kernel_rfl) (by kernel_rfl) (fun _ _ _ h => h) (Or.inr ⟨by rfl, rfl⟩) trivial ?_
    try simp only [Act.put, List.setIfInBounds_toArray, List.set_cons_zero, List.set_cons_succ, List.getElem_toArray, List.getElem_cons_succ, List.getElem_cons_zero]
    refine wpAnyH_take (i := 16) (v := undef) rfl (by kernel_rfl) (by kernel_rfl) (by kernel_rfl) (fun _ _ _ h => h) (Or.inr ⟨by rfl, rfl⟩) trivial ?_
    try simp only [Act.put, List.setIfInBounds_toArray, List.set_cons_zero, List.set_cons_succ, List.getElem_toArray, List.getElem_cons_succ, List.getElem_cons_zero]
    refine wpAnyH_take (i := 17) (v := undef) rfl (by kernel_rfl) (by kernel_rfl) (by kernel_rfl) (fun _ _ _ h => h) (Or.inr ⟨by rfl, rfl⟩) trivial ?_
    try simp only [Act.put, List.setIfInBounds_toArray, List.set_cons_zero, List.set_cons_succ, List.getElem_toArray, List.getElem_cons_succ, List.getElem_cons_zero]
    refine wpAnyH_take (i := 18) (v := undef) rfl (by kernel_rfl) (by kernel_rfl) (by kernel_rfl) (fun _ _ _ h => h) (Or.inr ⟨by rfl, rfl⟩) trivial ?_
    try simp only [Act.put, List.setIfInBounds_toArray, List.set_cons_zero, List.set_cons_succ, List.getElem_toArray, List.getElem_cons_succ, List.getElem_cons_zero]
    refine wpAnyH_take (i := 19) (v := undef) rfl (by kernel_rfl) (by kernel_rfl) (by kernel_rfl) (fun _ _ _ h => h) (Or.inr ⟨by rfl, rfl⟩) trivial ?_
    try simp only [Act.put, List.setIfInBounds_toArray, List.set_cons_zero, List.set_cons_succ, List.getElem_toArray, List.getElem_cons_succ, List.getElem_cons_zero]
    refine wpAnyH_take (i := 20) (v := undef) rfl (by kernel_rfl) (by kernel_rfl) (by kernel_rfl) (fun _ _ _ h => h) (Or.inr ⟨by rfl, rfl⟩) trivial ?_
    try simp only [Act.put, List.setIfInBounds_toArray, List.set_cons_zero, List.set_cons_succ, List.getElem_toArray, List.getElem_cons_succ, List.getElem_cons_zero]
    refine wpAnyH_take (i := 21) (v := undef) rfl (by kernel_rfl) (by kernel_rfl) (by kernel_rfl) (fun _ _ _ h => h) (Or.inr ⟨by rfl, rfl⟩) trivial ?_
    try simp only [Act.put, List.setIfInBounds_toArray, List.set_cons_zero, List.set_cons_succ, List.getElem_toArray, List.getElem_cons_succ, List.getElem_cons_zero]
    refine wpAnyH_take (i := 22) (v := undef) rfl (by kernel_rfl) (by kernel_rfl) (by kernel_rfl) (fun _ _ _ h => h) (Or.inr ⟨by rfl, rfl⟩) trivial ?_
    try simp only [Act.put, List.setIfInBounds_toArray, List.set_cons_zero, List.set_cons_succ, List.getElem_toArray, List.getElem_cons_succ, List.getElem_cons_zero]
    refine wpAnyH_take (i := 23) (v := undef) rfl (by kernel_rfl) (by kernel_rfl) (by kernel_rfl) (fun _ _ _ h => h) (Or.inr ⟨by rfl, rfl⟩) trivial ?_
    try simp only [Act.put, List.setIfInBounds_toArray, List.set_cons_zero, List.set_cons_succ, List.getElem_toArray, List.getElem_cons_succ, List.getElem_cons_zero]
    refine wpAnyH_take (i := 24) (v := undef) rfl (by kernel_rfl) (by kernel_rfl) (by kernel_rfl) (fun _ _ _ h => h) (Or.inr ⟨by rfl, rfl⟩) trivial ?_
    try simp only [Act.put, List.setIfInBounds_toArray, List.set_cons_zero, List.set_cons_succ, List.getElem_toArray, List.getElem_cons_succ, List.getElem_cons_zero]
    refine wpAnyH_take (i := 25) (v := undef) rfl (by kernel_rfl) (by kernel_rfl) (by kernel_rfl) (fun _ _ _ h => h) (Or.inr ⟨by rfl, rfl⟩) trivial ?_
    try simp only [Act.put, List.setIfInBounds_toArray, List.set_cons_zero, List.set_cons_succ, List.getElem_toArray, List.getElem_cons_succ, List.getElem_cons_zero]
    refine wpAnyH_take (i := 26) (v := (.bool true)) rfl (by kernel_rfl) (by kernel_rfl) (by kernel_rfl) (fun _ _ _ h => h) (Or.inl ⟨by rfl, by intro w hSw; go_simp⟩) trivial ?_
    try simp only [Act.put, List.setIfInBounds_toArray, List.set_cons_zero, List.set_cons_succ, List.getElem_toArray, List.getElem_cons_succ, List.getElem_cons_zero]
    refine wpAnyH_take (i := 27) (v := (.bool true)) rfl (by kernel_rfl) (by kernel_rfl) (by kernel_rfl) (fun _ _ _ h => h) (Or.inl ⟨by rfl, by intro w hSw; go_simp⟩) trivial ?_
    try simp only [Act.put, List.setIfInBounds_toArray, List.set_cons_zero, List.set_cons_succ, List.getElem_toArray, List.getElem_cons_succ, List.getElem_cons_zero]
    refine wpAnyH_ready (rs := [28]) (by kernel_rfl) (by simp) ?_
    refine AllReadyH.cons rfl (fun K hK => ?_) AllReadyH.nil
    go_simp
    refine hK.out _ _ trivial (fun hHeld => ?_)
    clear hK K
    try simp only [Act.put, List.setIfInBounds_toArray, List.set_cons_zero, List.set_cons_succ, List.getElem_toArray, List.getElem_cons_succ, List.getElem_cons_zero]
    refine wpAnyH_done (by kernel_rfl) ?_ _
    go_wp2_with fail
    go_ret
    exact ⟨rfl, bt (bt HB08.out.drew B9) B10⟩
  · have hne := HNE.out (by omega)
    have hx0 : decide (X = 0) = false := by simpa using hX
    have hx1 : ((X : Int) == 0) = false := by simp; omega
    have hx2 : (X == 0) = false := by simp; omega
    have hx3 : ¬ (X : Int) = 0 := by omega
    have hb1 : (bits .or .u64 (bits .or .u64 (d0 : Int) (d1 : Int)) (d2 : Int) == 0) = false := by simpa using hne
    have hb2 : (bits .or .u64 (bits .or .u64 (d0 : Int) (d1 : Int)) (d2 : Int) != 0) = true := by simpa using hne
    go_region_held3 (fun w' => w'.cell? ⟨b, 0, none⟩ = some (.int .u64 (d0 : Int)) ∧ w'.cell? ⟨b, 1, none⟩ = some (.int .u64 (d1 : Int)) ∧ w'.cell? ⟨b, 2, none⟩ = some (.int .u64 (d2 : Int))) (refine ⟨?_, ?_, ?_⟩ <;> first | assumption | exact HC0.out | exact HC1.out | exact HC2.out) (first
      | (go_at_call 12; ((with_reducible refine (words4 (some ⟨b, 0, none⟩) c2 N _ HW.out.drew HL.out).mono ?_)); rintro e w9 ⟨A9, c9, rfl, hc9, R9, B9⟩; have k0 := (B9.cell (p := ⟨b, 0, none⟩) hb).trans HC0.out; have k1 := (B9.cell (p := ⟨b, 1, none⟩) hb).trans HC1.out; have k2 := (B9.cell (p := ⟨b, 2, none⟩) hb).trans HC2.out)
      | (go_at_call 12; ((with_reducible refine (words4 A8 c8 M _ (HW8.out.drew.below B9) HR.out).mono ?_)); rintro e w10 ⟨A10, c10, rfl, hc10, R10, B10⟩; have hb9 := Nat.lt_of_lt_of_le hb B9.size; have j0 := (B10.cell (p := ⟨b, 0, none⟩) hb9).trans k0; have j1 := (B10.cell (p := ⟨b, 1, none⟩) hb9).trans k1; have j2 := (B10.cell (p := ⟨b, 2, none⟩) hb9).trans k2)
      | (go_at_call 14; ((with_reducible refine (spec_Equal A9 A10 c9 c10 N M 256 256 _ (R9.bits.below B10) R10.bits (lt_bitsS HL.out) (lt_bitsS HR.out) (by omega) (by omega) HEQ.out).mono ?_)); rintro e w11 ⟨rfl, rfl⟩))
    all_goals go_wp2_with fail
    all_goals go_ret
    all_goals exact ⟨rfl, bt (bt HB08.out.drew B9) B10⟩
end Go.Proofs.Ytbkkblphaohgkaa
