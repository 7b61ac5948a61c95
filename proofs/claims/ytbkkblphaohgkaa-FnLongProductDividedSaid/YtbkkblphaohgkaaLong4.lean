/- The contracts of the laws' helper longQuotient and of slices.Equal over words. -/
import Derived.Test.YtbkkblphaohgkaaFnSquaresW
import Derived.Test.YtbkkblphaohgkaaWalkDiv
import Derived.Deep.RegionHeld3
namespace Go.Proofs.Ytbkkblphaohgkaa
open Go.RowKit
set_option linter.unusedVariables false
/-- One step of dividing by one word, from the highest word down. -/
theorem quo_step {N y j : Nat} (hy0 : 0 < y) :
    (N / MM ^ (j + 1) % y * MM + dig N j) / y = dig (N / y) j ∧ (N / MM ^ (j + 1) % y * MM + dig N j) % y = N / MM ^ j % y := by
  have e : N / y / MM ^ j = N / MM ^ j / y := by rw [Nat.div_div_eq_div_mul, Nat.div_div_eq_div_mul, Nat.mul_comm]
  unfold dig
  rw [e, Nat.pow_succ, ← Nat.div_div_eq_div_mul]
  generalize N / MM ^ j = X
  have hd : X % MM < MM := Nat.mod_lt _ (by decide)
  have hr : X / MM % y < y := Nat.mod_lt _ hy0
  have h1 := Nat.div_add_mod X MM
  have h2 := Nat.div_add_mod (X / MM) y
  generalize X / MM % y = r at *
  generalize X / MM / y = a at *
  generalize X % MM = d at *
  have hX : X = (r * MM + d) + y * (a * MM) := by
    rw [← h1, ← h2, Nat.mul_add, Nat.mul_comm MM r, ← Nat.mul_assoc y, Nat.mul_comm MM]
    omega
  have hlt : (r * MM + d) / y < MM := by
    rw [Nat.div_lt_iff_lt_mul hy0]
    have := Nat.mul_le_mul_right MM (show r + 1 ≤ y from hr)
    rw [Nat.add_mul] at this
    rw [Nat.mul_comm MM y]
    omega
  constructor
  · conv => rhs; rw [hX]
    rw [Nat.add_mul_div_left _ _ hy0, Nat.mul_comm a MM, Nat.add_mul_mod_self_left, Nat.mod_eq_of_lt hlt]
  · conv => rhs; rw [hX]
    rw [Nat.add_mul_mod_self_left]
theorem hyb_top (Q L : Nat) : wordsOf (hyb 0 Q L) L = wordsOf 0 L := by
  symm
  apply wordsOf_ext (by simp [wordsOf_length])
  intro p hp
  rw [wordsOf_get hp, dig_hyb, if_pos hp]
theorem hyb_none (Q : Nat) : hyb 0 Q 0 = Q := by simp [hyb]
theorem hyb_down {Q j L n : Nat} (hj : j < L) (hd : dig Q j = n) : (wordsOf (hyb 0 Q (j + 1)) L).set j (.int .u64 (n : Int)) = wordsOf (hyb 0 Q j) L := by
  apply wordsOf_ext (by simp [wordsOf_length])
  intro p hp
  by_cases hpj : p = j
  · subst hpj
    rw [List.getElem?_set_self (by rw [wordsOf_length]; exact hp), dig_hyb, if_neg (by omega), hd]
  · rw [List.getElem?_set_ne (by omega), wordsOf_get hp, dig_hyb, dig_hyb]
    by_cases hlt : p < j
    · rw [if_pos hlt, if_pos (by omega)]
    · rw [if_neg hlt, if_neg (by omega)]
theorem div_natW (r d y : Nat) : divQ64 r d y = (((r * MM + d) / y : Nat) : Int) ∧ divR64 r d y = (((r * MM + d) % y : Nat) : Int) := by
  unfold divQ64 divR64
  rw [MM_eq, Int.natCast_ediv, Int.natCast_emod, Int.natCast_add, Int.natCast_mul]
  exact ⟨rfl, rfl⟩
def RetQ (w : World) (Q L R : Nat) (e : Ending) (w' : World) : Prop := ∃ A c, e = .returned (.tuple #[.slice A L c, .int .u64 (R : Int), .bool false]) ∧ L ≤ c ∧ OwnW w' w.heap.size (.slice A L c) Q L ∧ Below w.heap.size w w'
set_option maxRecDepth 100000 in
set_option maxHeartbeats 4000000 in
theorem laws_longQuotient (AA : Option Addr) (ca N L y : Nat) (w : World) (hA : Wds w AA N L) (hN : N < MM ^ L) (hy0 : 0 < y) (hy : y < 18446744073709551616) (hL : L ≤ 17592186043905) :
    Calls Try.prog 19 #[.slice AA L ca, .int .u64 (y : Int)] w (RetQ w (N / y) L (N % y)) := by
  obtain ⟨i0, hi, hz0, hz1, hz2⟩ := info_parts u64_info
  have HA := hide hA
  have HN := hide hN
  have uy : U64 y := by unfold U64; omega
  clear hA hN
  go_enter Try.func19, Try.ntmps19
  go_wp2_with (at_make; refine wpList_make_full _ rfl _ _ 22 rfl w.heap.size 23 i0 (.int .u64 0) 1 Try.underlying22 hi hz0 hz1 _ _ _ _ L rfl rfl (by omega) (by omega) (by rw [hz2]; omega) (by unfold maxLen; omega) (Nat.le_refl _) ?_; intro w1 hown1 hgrow1)
  have R0 : OwnW w1 w.heap.size (.slice (some ⟨w.heap.size, 0, none⟩) L L) (hyb 0 (N / y) L) L := by
    unfold OwnW
    rw [hyb_top, ← madeW]
    exact hown1
  have B0 : Below w.heap.size w w1 := (Below.refl _ _).grown hgrow1 (Nat.le_refl _) (by simp)
  clear hown1 hgrow1
  go_loopw [5, 6, 7] (fun r p i wr => ∃ k R : Nat, k ≤ L ∧ i = .int .i64 ((k : Int) - 1) ∧ p = .bool false ∧ r = .int .u64 (R : Int) ∧ R < y ∧ Hid (N / MM ^ k % y = R) ∧ OwnW wr w.heap.size (.slice (some ⟨w.heap.size, 0, none⟩) L L) (hyb 0 (N / y) k) L ∧ Below w.heap.size w wr) (fun _ _ i _ => (intOf i + 1).toNat)
  case atStart =>
    refine ⟨L, 0, by omega, by go_num, rfl, rfl, hy0, ?_, R0, B0⟩
    unfold Hid
    rw [Nat.div_eq_of_lt HN.out, Nat.zero_mod]
  case round =>
    obtain ⟨k, R, hk, rfl, rfl, rfl, hR, HR, hown, hBe⟩ := hrel
    clear R0 B0
    rcases Nat.eq_zero_or_pos k with h0 | h0
    · subst h0
      go_wp2_with fail
      go_ret3
      rw [hyb_none] at hown
      have hR0 := HR.out
      rw [Nat.pow_zero, Nat.div_one] at hR0
      rw [hR0]
      exact ⟨_, _, rfl, Nat.le_refl _, hown, hBe⟩
    · obtain ⟨j, rfl⟩ : ∃ j, k = j + 1 := ⟨k - 1, by omega⟩
      have hk1 : ((j + 1 : Nat) : Int) - 1 = (j : Int) := by omega
      rw [hk1]
      obtain ⟨ba, oa, rfl, hlta, hca⟩ := (HA.out.below hBe) (by omega)
      have hjL : j < L := by omega
      have hcaj := hca j hjL
      clear hca
      have hdl := dig_lt N j
      have hst := quo_step (N := N) (y := y) (j := j) hy0
      rw [HR.out] at hst
      have hdv := div_natW R (dig N j) y
      rw [hst.1, hst.2] at hdv
      have hR2 : N / MM ^ j % y < y := Nat.mod_lt _ hy0
      have hq2 := dig_lt (N / y) j
      have q1 := hdv.1
      have q2 := hdv.2
      clear hdv hst
      have hset := hyb_down (Q := N / y) hjL rfl
      generalize hn : dig (N / y) j = n at *
      generalize hR2e : N / MM ^ j % y = R2 at *
      generalize hd : dig N j = d at *
      have HR2 := hide hR2e
      have Hset := hide hset
      have HBe := hide hBe
      clear hset hn hR2e hd hBe
      have uR : U64 R := by unfold U64; omega
      have ud : U64 d := by unfold U64; omega
      have hRy : (R : Int) < (y : Int) := by omega
      clear hk1
      go_wp2_with (go_at_call 27; ((with_reducible refine (impl_Div64 _ _ _ uR ud uy hRy _).mono ?_); rintro e w2 ⟨rfl, hb⟩; have hown2 := hown.below hb; have hfrz := World.ownsRow.frozenAt hown2 j; have hcell := World.ownsRow.cellAt hown2 j (by omega); rw [wordsOf_get hjL] at hcell))
      go_roundw
      case rel =>
        refine ⟨j, R2, by omega, rfl, rfl, rfl, hR2, HR2, hown2.store Hset.out, ?_⟩
        exact (bt HBe.out hb).setCell (Nat.le_refl _) _
      case measure => simp [intOf]
set_option maxRecDepth 100000 in
set_option maxHeartbeats 4000000 in
/-- Two rows of the same words are equal. -/
theorem slices_EqualW (AA AB : Option Addr) (ca cb N L : Nat) (w : World) (hA : Wds w AA N L) (hB : Wds w AB N L) (hL : L ≤ 17592186043905) :
    Calls Try.prog 20 #[.slice AA L ca, .slice AB L cb] w fun e w' => e = .returned (.bool true) ∧ Below w.heap.size w w' := by
  have HA := hide hA
  have HB := hide hB
  clear hA hB
  go_enter Try.func20, Try.ntmps20
  go_wp2_with fail
  go_loopw [5, 13] (fun _ i wr => ∃ k n : Nat, k ≤ L ∧ i = .int .i64 (k : Int) ∧ wr = w.drewN n) (fun _ i _ => L - (intOf i).toNat)
  case atStart => exact ⟨0, 0, by omega, rfl, rfl⟩
  case round =>
    obtain ⟨k, n, hk, rfl, rfl⟩ := hrel
    by_cases hlt : k < L
    · obtain ⟨ba, oa, rfl, hlta, hca⟩ := HA.out (by omega)
      obtain ⟨bb, ob, rfl, hltb, hcb⟩ := HB.out (by omega)
      have hcak := hca k hlt
      have hcbk := hcb k hlt
      clear hca hcb
      generalize dig N k = d at *
      go_wp2_with fail
      go_quiet (fail)
      go_wp2_with fail
      go_roundw
      case rel => exact ⟨k + 1, n + nq, by omega, by go_num, rfl⟩
      case measure => simp [intOf]; omega
    · obtain rfl : k = L := by omega
      go_wp2_with fail
      go_ret
      exact ⟨rfl, below_drewN (Below.refl _ _) _⟩
end Go.Proofs.Ytbkkblphaohgkaa
