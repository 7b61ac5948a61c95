/- Plain arithmetic of numbers as rows of words, the lowest one first. No program in sight. -/
import Derived.Below
namespace Go.Proofs.Ytbkkblphaohgkaa

/-- 2 to the power of 64. -/
def MM : Nat := 18446744073709551616
theorem MM_eq : MM = 18446744073709551616 := rfl
theorem MM_pos (k : Nat) : 0 < MM ^ k := Nat.pow_pos (by decide)
theorem MM_two (k : Nat) : MM ^ k = 2 ^ (64 * k) := by rw [Nat.pow_mul]; rfl
/-- Word k of N. -/
def dig (N k : Nat) : Nat := N / MM ^ k % MM
theorem dig_lt (N k : Nat) : dig N k < 18446744073709551616 := Nat.mod_lt _ (by decide)
theorem dig_lt' (N k : Nat) : dig N k < MM := Nat.mod_lt _ (by decide)
theorem dig_zero {N L k : Nat} (hN : N < MM ^ L) (hk : L ≤ k) : dig N k = 0 := by
  unfold dig
  rw [Nat.div_eq_of_lt (Nat.lt_of_lt_of_le hN (Nat.pow_le_pow_right (by decide) hk))]
  rfl
/-- The cells of the lowest L words of N. -/
def wordsOf (N L : Nat) : List Value := (List.range L).map fun i => Value.int .u64 ((dig N i : Nat) : Int)
theorem wordsOf_length (N L : Nat) : (wordsOf N L).length = L := by simp [wordsOf]
theorem wordsOf_get {N L i : Nat} (h : i < L) : (wordsOf N L)[i]? = some (.int .u64 ((dig N i : Nat) : Int)) := by simp [wordsOf, h]
theorem wordsOf_ext {xs : List Value} {N L : Nat} (hl : xs.length = L) (h : ∀ i, i < L → xs[i]? = some (.int .u64 ((dig N i : Nat) : Int))) : xs = wordsOf N L := by
  apply List.ext_getElem?
  intro i
  rcases Nat.lt_or_ge i L with hi | hi
  · rw [h i hi, wordsOf_get hi]
  · rw [List.getElem?_eq_none (by omega), List.getElem?_eq_none (by rw [wordsOf_length]; exact hi)]
theorem wordsOf_snoc (N k : Nat) : wordsOf N k ++ [.int .u64 ((dig N k : Nat) : Int)] = wordsOf N (k + 1) := by
  simp [wordsOf, List.range_succ]
theorem wordsOf_take {N L k : Nat} (h : k ≤ L) : (wordsOf N L).take k = wordsOf N k := by
  apply wordsOf_ext (by simp [wordsOf_length]; omega)
  intro i hi
  rw [List.getElem?_take_of_lt hi, wordsOf_get (by omega)]
theorem wordsOf_none (L : Nat) : wordsOf 0 L = List.replicate L (.int .u64 0) := by
  symm
  apply wordsOf_ext (by simp)
  intro i hi
  simp [hi, dig]
theorem dig_mod (N L i : Nat) (h : i < L) : dig (N % MM ^ L) i = dig N i := by
  unfold dig
  obtain ⟨d, rfl⟩ : ∃ d, L = i + (d + 1) := ⟨L - i - 1, by omega⟩
  rw [Nat.pow_add, Nat.mod_mul_right_div_self, Nat.pow_succ, Nat.mul_comm (MM ^ d), Nat.mod_mul_right_mod]

/-- What is carried into word k. -/
def carW (A B c k : Nat) : Nat := (A % MM ^ k + B % MM ^ k + c) / MM ^ k
theorem carW_zero (A B c : Nat) : carW A B c 0 = c := by simp [carW, Nat.mod_one]
theorem carW_le (A B c k : Nat) (hc : c ≤ 1) : carW A B c k ≤ 1 := by
  unfold carW
  have hp := MM_pos k
  have h1 := Nat.mod_lt A hp
  have h2 := Nat.mod_lt B hp
  have : A % MM ^ k + B % MM ^ k + c < 2 * MM ^ k := by omega
  have := (Nat.div_lt_iff_lt_mul hp).2 this
  omega
theorem carW_dig (A B c k : Nat) : dig (A + B + c) k = (dig A k + dig B k + carW A B c k) % MM := by
  unfold carW dig
  have hp := MM_pos k
  have e : A + B + c = (A % MM ^ k + B % MM ^ k + c) + MM ^ k * (A / MM ^ k + B / MM ^ k) := by
    have h1 := Nat.div_add_mod A (MM ^ k)
    have h2 := Nat.div_add_mod B (MM ^ k)
    rw [Nat.mul_add]
    omega
  rw [e, Nat.add_mul_div_left _ _ hp]
  generalize (A % MM ^ k + B % MM ^ k + c) / MM ^ k = n
  generalize A / MM ^ k = a
  generalize B / MM ^ k = b
  rw [MM_eq]
  omega
theorem carW_succ (A B c k : Nat) : carW A B c (k + 1) = (dig A k + dig B k + carW A B c k) / MM := by
  unfold carW dig
  have hp := MM_pos k
  have h1 : A % MM ^ (k + 1) = A % MM ^ k + MM ^ k * (A / MM ^ k % MM) := by rw [Nat.pow_succ, Nat.mod_mul]
  have h2 : B % MM ^ (k + 1) = B % MM ^ k + MM ^ k * (B / MM ^ k % MM) := by rw [Nat.pow_succ, Nat.mod_mul]
  rw [h1, h2, Nat.pow_succ, ← Nat.div_div_eq_div_mul]
  have e : A % MM ^ k + MM ^ k * (A / MM ^ k % MM) + (B % MM ^ k + MM ^ k * (B / MM ^ k % MM)) + c = (A % MM ^ k + B % MM ^ k + c) + MM ^ k * (A / MM ^ k % MM + B / MM ^ k % MM) := by
    rw [Nat.mul_add]; omega
  rw [e, Nat.add_mul_div_left _ _ hp]
  congr 1
  omega
theorem carW_top {A B c m : Nat} (hA : A < MM ^ m) (hB : B < MM ^ m) (hc : c ≤ 1) : carW A B c m = dig (A + B + c) m := by
  have h := carW_le A B c m hc
  unfold carW at h ⊢
  unfold dig
  rw [Nat.mod_eq_of_lt hA, Nat.mod_eq_of_lt hB] at h ⊢
  rw [Nat.mod_eq_of_lt (Nat.lt_of_le_of_lt h (by decide))]
theorem sum_lt {A B c m : Nat} (hA : A < MM ^ m) (hB : B < MM ^ m) (hc : c ≤ 1) : A + B + c < MM ^ (m + 1) := by
  have : 2 * MM ^ m ≤ MM ^ (m + 1) := by
    rw [Nat.pow_succ, Nat.mul_comm]
    exact Nat.mul_le_mul_left _ (by decide)
  omega
/-- Any row of words is the row of a number. -/
theorem some_number (l : List Nat) (h : ∀ x ∈ l, x < MM) : ∃ N, N < MM ^ l.length ∧ ∀ i, i < l.length → dig N i = l.getD i 0 := by
  induction l with
  | nil => exact ⟨0, by simp, fun i hi => by simp at hi⟩
  | cons a l ih =>
    obtain ⟨N, hN, hd⟩ := ih fun x hx => h x (List.mem_cons_of_mem _ hx)
    have ha : a < MM := h a List.mem_cons_self
    refine ⟨a + MM * N, ?_, fun i hi => ?_⟩
    · rw [List.length_cons, Nat.pow_succ, Nat.mul_comm (MM ^ l.length)]
      have := Nat.mul_le_mul_left MM (show N + 1 ≤ MM ^ l.length from hN)
      rw [Nat.mul_add] at this
      omega
    · have hdiv : (a + MM * N) / MM = N := by rw [Nat.add_mul_div_left _ _ (by decide), Nat.div_eq_of_lt ha, Nat.zero_add]
      match i with
      | 0 => simp [dig, Nat.add_mul_mod_self_left, Nat.mod_eq_of_lt ha]
      | j + 1 =>
        have : dig (a + MM * N) (j + 1) = dig N j := by
          unfold dig
          rw [Nat.pow_succ', ← Nat.div_div_eq_div_mul, hdiv]
        rw [this, hd j (by simpa using hi)]
        simp
end Go.Proofs.Ytbkkblphaohgkaa
