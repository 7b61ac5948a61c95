/- The contract of the law's helper longProduct: each word by each word. -/
import Derived.Test.YtbkkblphaohgkaaLong2
namespace Go.Proofs.Ytbkkblphaohgkaa
open Go.RowKit
set_option linter.unusedVariables false

/-- The lowest j words of V, and T above. -/
def hyb (V T j : Nat) : Nat := V % MM ^ j + MM ^ j * (T / MM ^ j)
theorem dig_hyb (V T j p : Nat) : dig (hyb V T j) p = if p < j then dig V p else dig T p := by
  by_cases h : p < j
  · rw [if_pos h, ← dig_mod _ j p h]
    unfold hyb
    rw [Nat.add_mul_mod_self_left, Nat.mod_mod, dig_mod V j p h]
  · rw [if_neg h]
    obtain ⟨d, rfl⟩ : ∃ d, p = j + d := ⟨p - j, by omega⟩
    unfold dig hyb
    rw [Nat.pow_add, ← Nat.div_div_eq_div_mul, ← Nat.div_div_eq_div_mul, Nat.add_mul_div_left _ _ (MM_pos j), Nat.div_eq_of_lt (Nat.mod_lt _ (MM_pos j)), Nat.zero_add]
theorem hyb_self (T j : Nat) : hyb (T % MM ^ j) T j = T := by
  unfold hyb
  rw [Nat.mod_mod, Nat.add_comm]
  exact Nat.div_add_mod _ _
theorem hyb_set {V V' T j L n : Nat} (hj : j < L) (hlow : V' % MM ^ j = V % MM ^ j) (hd : dig V' j = n) :
    (wordsOf (hyb V T j) L).set j (.int .u64 (n : Int)) = wordsOf (hyb V' T (j + 1)) L := by
  apply wordsOf_ext (by simp [wordsOf_length])
  intro p hp
  by_cases hpj : p = j
  · subst hpj
    rw [List.getElem?_set_self (by rw [wordsOf_length]; exact hp), dig_hyb, if_pos (by omega), hd]
  · rw [List.getElem?_set_ne (by omega), wordsOf_get hp, dig_hyb, dig_hyb]
    by_cases hlt : p < j
    · rw [if_pos hlt, if_pos (by omega), ← dig_mod V j p hlt, ← dig_mod V' j p hlt, hlow]
    · rw [if_neg hlt, if_neg (by omega)]
theorem hyb_last {V T j L n : Nat} (hj : j < L) (hn : V / MM ^ j = n) (hnl : n < MM) (hT : T < MM ^ j) :
    (wordsOf (hyb V T j) L).set j (.int .u64 (n : Int)) = wordsOf V L := by
  have hV : V < MM ^ (j + 1) := by
    rw [Nat.pow_succ, Nat.mul_comm]
    exact (Nat.div_lt_iff_lt_mul (MM_pos j)).1 (by rw [hn]; exact hnl)
  apply wordsOf_ext (by simp [wordsOf_length])
  intro p hp
  by_cases hpj : p = j
  · subst hpj
    rw [List.getElem?_set_self (by rw [wordsOf_length]; exact hp)]
    unfold dig
    rw [hn, Nat.mod_eq_of_lt hnl]
  · rw [List.getElem?_set_ne (by omega), wordsOf_get hp, dig_hyb]
    by_cases hlt : p < j
    · rw [if_pos hlt]
    · rw [if_neg hlt, dig_zero hT (by omega), dig_zero hV (by omega)]
/-- What has been added when k words of B are multiplied by x. -/
def prodV (T x B i k : Nat) : Nat := T % MM ^ (i + k) + x * (B % MM ^ k) * MM ^ i
theorem prodV_zero (T x B i : Nat) : prodV T x B i 0 = T % MM ^ i := by unfold prodV; simp [Nat.mod_one]
theorem prodV_succ (T x B i k : Nat) : prodV T x B i (k + 1) = prodV T x B i k + MM ^ (i + k) * (dig T (i + k) + x * dig B k) := by
  unfold prodV dig
  have h1 : T % MM ^ (i + (k + 1)) = T % MM ^ (i + k) + MM ^ (i + k) * (T / MM ^ (i + k) % MM) := by rw [← Nat.add_assoc, Nat.pow_succ, Nat.mod_mul]
  have h2 : B % MM ^ (k + 1) = B % MM ^ k + MM ^ k * (B / MM ^ k % MM) := by rw [Nat.pow_succ, Nat.mod_mul]
  rw [h1, h2]
  generalize T / MM ^ (i + k) % MM = t
  generalize B / MM ^ k % MM = y
  rw [Nat.pow_add, Nat.mul_add x, Nat.add_mul, Nat.mul_add (MM ^ i * MM ^ k)]
  have e : x * (MM ^ k * y) * MM ^ i = MM ^ i * MM ^ k * (x * y) := by
    rw [Nat.mul_comm _ (MM ^ i), Nat.mul_assoc, Nat.mul_left_comm x]
  omega
theorem prodV_steps {T x B i k o n o2 : Nat} (ho : prodV T x B i k / MM ^ (i + k) = o) (hn : (x * dig B k + dig T (i + k) + o) % MM = n) (ho2 : (x * dig B k + dig T (i + k) + o) / MM = o2) :
    prodV T x B i (k + 1) % MM ^ (i + k) = prodV T x B i k % MM ^ (i + k) ∧ dig (prodV T x B i (k + 1)) (i + k) = n ∧ prodV T x B i (k + 1) / MM ^ (i + (k + 1)) = o2 := by
  rw [prodV_succ]
  refine ⟨Nat.add_mul_mod_self_left _ _ _, ?_, ?_⟩
  · unfold dig at hn ⊢
    rw [Nat.add_mul_div_left _ _ (MM_pos _), ho, ← hn]
    congr 1
    omega
  · rw [← Nat.add_assoc i k 1, Nat.pow_succ, ← Nat.div_div_eq_div_mul, Nat.add_mul_div_left _ _ (MM_pos _), ho, ← ho2]
    congr 1
    omega
theorem prodV_end {A B la lb i : Nat} (hB : B < MM ^ lb) : prodV (A % MM ^ i * B) (dig A i) B i lb = A % MM ^ (i + 1) * B ∧ A % MM ^ i * B < MM ^ (i + lb) := by
  have hlt : A % MM ^ i * B < MM ^ (i + lb) := by
    rw [Nat.pow_add]
    exact Nat.mul_lt_mul'' (Nat.mod_lt _ (MM_pos i)) hB
  refine ⟨?_, hlt⟩
  unfold prodV dig
  rw [Nat.mod_eq_of_lt hlt, Nat.mod_eq_of_lt hB, Nat.pow_succ, Nat.mod_mul, Nat.add_mul]
  congr 1
  rw [Nat.mul_comm _ (MM ^ i), Nat.mul_assoc]
theorem mul_step (x y t o : Nat) (hx : x < 18446744073709551616) (hy : y < 18446744073709551616) (ht : t < 18446744073709551616) (ho : o < 18446744073709551616) :
    addS64 (addS64 (mulL64 x y) t 0) o 0 = (((x * y + t + o) % MM : Nat) : Int) ∧
    addS64 (mulH64 x y) (addC64 (mulL64 x y) t 0) (addC64 (addS64 (mulL64 x y) t 0) o 0) = (((x * y + t + o) / MM : Nat) : Int) ∧ (x * y + t + o) / MM < 18446744073709551616 := by
  have hp : x * y ≤ 340282366920938463426481119284349108225 := by
    have := Nat.mul_le_mul (show x ≤ 18446744073709551615 by omega) (show y ≤ 18446744073709551615 by omega)
    omega
  unfold addS64 addC64 mulL64 mulH64
  rw [MM_eq, ← Int.natCast_mul]
  generalize x * y = p at *
  omega
theorem OwnW.store {w : World} {base L g j n c : Nat} {N N' : Nat} (h : OwnW w base (.slice (some ⟨g, 0, none⟩) L c) N L) (hset : (wordsOf N L).set j (.int .u64 (n : Int)) = wordsOf N' L) :
    OwnW (w.setCell ⟨g, j, none⟩ (.int .u64 (n : Int))) base (.slice (some ⟨g, 0, none⟩) L c) N' L := by
  have hs := (World.ownsRow.stored h j (.int .u64 (n : Int))).1
  unfold OwnW
  rw [← hset]
  exact hs
theorem madeW (n : Nat) : (madeCells (Value.cells (.int .u64 0)) (n * 1)).toList = wordsOf 0 n := by
  rw [Nat.mul_one, wordsOf_none]
  exact toList_madeCells_one _ _
set_option maxRecDepth 100000 in
set_option maxHeartbeats 8000000 in
theorem laws_longProduct (AA AB : Option Addr) (ca cb A B la lb : Nat) (w : World) (hA : Wds w AA A la) (hB : Wds w AB B lb) (hAl : A < MM ^ la) (hBl : B < MM ^ lb) (hlab : la + lb ≤ 17592186043905) :
    Calls Try.prog 17 #[.slice AA la ca, .slice AB lb cb] w (RetW w (A * B) (la + lb)) := by
  obtain ⟨i0, hi, hz0, hz1, hz2⟩ := info_parts u64_info
  have HA := hide hA
  have HB := hide hB
  have HAl := hide hAl
  have HBl := hide hBl
  clear hA hB hAl hBl
  go_enter Try.func17, Try.ntmps17
  go_wp2_with (at_make; refine wpList_make_full _ rfl _ _ 22 rfl w.heap.size 23 i0 (.int .u64 0) 1 Try.underlying22 hi hz0 hz1 _ _ _ _ (la + lb) rfl rfl (by omega) (by omega) (by rw [hz2]; omega) (by unfold maxLen; omega) (Nat.le_refl _) ?_; intro w1 hown1 hgrow1)
  have R0 : OwnW w1 w.heap.size (.slice (some ⟨w.heap.size, 0, none⟩) (la + lb) (la + lb)) 0 (la + lb) := by
    unfold OwnW
    rw [← madeW]
    exact hown1
  have B0 : Below w.heap.size w w1 := (Below.refl _ _).grown hgrow1 (Nat.le_refl _) (by simp)
  clear hown1 hgrow1
  go_loopw [6, 7, 8, 9, 10, 11, 12, 13, 14, 15, 16, 25] (fun _ _ _ _ _ _ _ _ _ _ _ i wr => ∃ k : Nat, k ≤ la ∧ i = .int .i64 (k : Int) ∧ OwnW wr w.heap.size (.slice (some ⟨w.heap.size, 0, none⟩) (la + lb) (la + lb)) (A % MM ^ k * B) (la + lb) ∧ Below w.heap.size w wr) (fun _ _ _ _ _ _ _ _ _ _ _ i _ => la - (intOf i).toNat)
  case atStart => exact ⟨0, by omega, rfl, by simpa [Nat.mod_one] using R0, B0⟩
  case round =>
    obtain ⟨i, hi', rfl, hown, hBe⟩ := hrel
    clear R0 B0
    by_cases hlt : i < la
    · obtain ⟨ba, oa, rfl, hlta, hca⟩ := (HA.out.below hBe) (by omega)
      have hcai := hca i hlt
      clear hca
      have hxl := dig_lt A i
      obtain ⟨wo, rfl⟩ : ∃ wo : World, wo = wr := ⟨_, rfl⟩
      have hend := prodV_end (A := A) (la := la) (i := i) HBl.out
      generalize hT : A % MM ^ i * B = T at *
      generalize hx : dig A i = x at *
      have Hend := hide hend
      have HT := hide hT
      have Hx := hide hx
      clear hend hT hx
      have ux : U64 x := by unfold U64; omega
      go_wp2_with fail
      go_loopw [8, 9, 10, 11, 12, 13, 14, 15, 16, 32] (fun o _ _ _ _ _ _ _ _ i' wr => ∃ k O : Nat, k ≤ lb ∧ i' = .int .i64 (k : Int) ∧ o = .int .u64 (O : Int) ∧ O < 18446744073709551616 ∧ Hid (prodV T x B i k / MM ^ (i + k) = O) ∧ OwnW wr w.heap.size (.slice (some ⟨w.heap.size, 0, none⟩) (la + lb) (la + lb)) (hyb (prodV T x B i k) T (i + k)) (la + lb) ∧ Below w.heap.size w wr) (fun _ _ _ _ _ _ _ _ _ i' _ => lb - (intOf i').toNat)
      case atStart =>
        refine ⟨0, 0, by omega, rfl, rfl, by omega, ?_, ?_, hBe⟩
        · unfold Hid
          rw [prodV_zero, Nat.add_zero, Nat.div_eq_of_lt (Nat.mod_lt _ (MM_pos i))]
        · rw [prodV_zero, Nat.add_zero, hyb_self]
          exact hown
      case round =>
        obtain ⟨k, O, hk, rfl, rfl, hOl, hO, hown2, hBe2⟩ := hrel
        have hcell := World.ownsRow.cellAt hown2 (i + k)
        have hfrz := World.ownsRow.frozenAt hown2 (i + k)
        by_cases hltk : k < lb
        · obtain ⟨bb, ob, rfl, hltb, hcb⟩ := (HB.out.below hBe2) (by omega)
          have hcbk := hcb k hltk
          clear hcb
          have hyl := dig_lt B k
          have htl := dig_lt T (i + k)
          have hcj := hcell (by omega)
          rw [wordsOf_get (by omega), dig_hyb, if_neg (by omega)] at hcj
          clear hcell
          have hms := mul_step x (dig B k) (dig T (i + k)) O hxl hyl htl hOl
          have hst := prodV_steps hO.out rfl rfl
          have r1 := hms.1
          have r2 := hms.2.1
          have r3 := hms.2.2
          clear hms
          generalize hn : (x * dig B k + dig T (i + k) + O) % MM = n at *
          generalize ho2 : (x * dig B k + dig T (i + k) + O) / MM = O2 at *
          have Hst := hide hst
          clear hst hn ho2
          generalize hy : dig B k = y at *
          generalize ht : dig T (i + k) = t at *
          clear hy ht
          have uy : U64 y := by unfold U64; omega
          have ut : U64 t := by unfold U64; omega
          have uO : U64 O := by unfold U64; omega
          have uL := U64_mulL x y
          have uH := U64_mulH ux uy
          have uS := U64_addS (mulL64 x y) t 0
          have uC := U64_of_B1 (B1_addC64 uL ut B1_0)
          have bD := B1_addC64 uS uO B1_0
          have hik : i + k < la + lb := by omega
          have hset := hyb_set (T := T) (L := la + lb) hik Hst.out.1 Hst.out.2.1
          have Hset := hide hset
          clear hset
          go_wp2_with (first | (go_at_call 26; ((with_reducible refine (impl_Mul64 _ _ ux uy _).mono ?_); rintro e w1 ⟨rfl, rfl⟩)) | (go_at_call 25; ((with_reducible refine (impl_Add64 _ _ _ (by assumption) (by assumption) (by first | assumption | exact B1_0) _).mono ?_); rintro e w1 ⟨rfl, rfl⟩)))
          go_roundw
          case rel =>
            refine ⟨k + 1, O2, by omega, by go_num, rfl, r3, Hst.out.2.2, ?_, hBe2.setCell (Nat.le_refl _) _⟩
            exact hown2.store Hset.out
          case measure => simp [intOf]; omega
        · obtain rfl : k = lb := by omega
          have hik : i + k < la + k := by omega
          have hcj := hcell (by omega)
          rw [wordsOf_get hik] at hcj
          clear hcell
          have hset := hyb_last (L := la + k) hik hO.out (by rw [MM_eq]; exact hOl) Hend.out.2
          rw [Hend.out.1] at hset
          have Hset := hide hset
          clear hset
          go_wp2_with fail
          go_roundw
          case rel =>
            rw [Hend.out.1] at hown2
            exact ⟨i + 1, by omega, by go_num, OwnW.store hown2 Hset.out, hBe2.setCell (Nat.le_refl _) _⟩
          case measure => simp [intOf]; omega
    · obtain rfl : i = la := by omega
      go_wp2_with fail
      go_ret
      refine ⟨_, _, rfl, Nat.le_refl _, ?_, hBe⟩
      rw [Nat.mod_eq_of_lt HAl.out] at hown
      exact hown
end Go.Proofs.Ytbkkblphaohgkaa
