/- Plain arithmetic of numbers as rows of bits, the lowest one first: what one step of adding, subtracting, comparing, multiplying and dividing bit by bit does. No program in sight. -/
import Derived.Below
namespace Go.Proofs.Ytbkkblphaohgkaa

theorem tb (x i : Nat) : x.testBit i = decide (x / 2 ^ i % 2 = 1) := Nat.testBit_eq_decide_div_mod_eq
theorem tb_toNat (x i : Nat) : (x.testBit i).toNat = x / 2 ^ i % 2 := by
  rw [tb]
  by_cases h : x / 2 ^ i % 2 = 1
  · simp [h]
  · simp [h]; omega

/-- The cells of the lowest L bits of N. -/
def cellsOf (N L : Nat) : List Value := (List.range L).map fun i => Value.bool (N.testBit i)
theorem cellsOf_length (N L : Nat) : (cellsOf N L).length = L := by simp [cellsOf]
theorem cellsOf_get {N L i : Nat} (h : i < L) : (cellsOf N L)[i]? = some (.bool (N.testBit i)) := by simp [cellsOf, h]
theorem cellsOf_some {N L i : Nat} {u : Value} (h : (cellsOf N L)[i]? = some u) : i < L ∧ u = .bool (N.testBit i) := by
  have hl : i < L := by
    rcases Nat.lt_or_ge i L with hl | hl
    · exact hl
    · rw [List.getElem?_eq_none (by rw [cellsOf_length]; exact hl)] at h; cases h
  rw [cellsOf_get hl] at h
  exact ⟨hl, by injection h with h; exact h.symm⟩
theorem cellsOf_zero (N : Nat) : cellsOf N 0 = [] := rfl
theorem cellsOf_ext {xs : List Value} {N L : Nat} (hl : xs.length = L) (h : ∀ i, i < L → xs[i]? = some (.bool (N.testBit i))) : xs = cellsOf N L := by
  apply List.ext_getElem?
  intro i
  rcases Nat.lt_or_ge i L with hi | hi
  · rw [h i hi, cellsOf_get hi]
  · rw [List.getElem?_eq_none (by omega), List.getElem?_eq_none (by rw [cellsOf_length]; exact hi)]
theorem cellsOf_congr {N M L : Nat} (h : ∀ i, i < L → N.testBit i = M.testBit i) : cellsOf N L = cellsOf M L := by
  apply cellsOf_ext (cellsOf_length _ _)
  intro i hi
  rw [cellsOf_get hi, h i hi]
theorem cellsOf_mod (N L : Nat) : cellsOf (N % 2 ^ L) L = cellsOf N L := cellsOf_congr fun i hi => by simp [Nat.testBit_mod_two_pow, hi]
theorem cellsOf_take {N L k : Nat} (h : k ≤ L) : (cellsOf N L).take k = cellsOf N k := by
  apply cellsOf_ext (by simp [cellsOf_length]; omega)
  intro i hi
  rw [List.getElem?_take_of_lt hi, cellsOf_get (by omega)]
theorem cellsOf_drop {N L k : Nat} : (cellsOf N L).drop k = cellsOf (N / 2 ^ k) (L - k) := by
  apply cellsOf_ext (by simp [cellsOf_length])
  intro i hi
  rw [List.getElem?_drop, cellsOf_get (by omega), Nat.testBit_div_two_pow, Nat.add_comm]
theorem cellsOf_append {A B la lb : Nat} (hA : A < 2 ^ la) : cellsOf A la ++ cellsOf B lb = cellsOf (A + 2 ^ la * B) (la + lb) := by
  apply cellsOf_ext (by simp [cellsOf_length])
  intro i hi
  rw [Nat.add_comm A, Nat.testBit_two_pow_mul_add _ hA]
  by_cases h : i < la
  · rw [List.getElem?_append_left (by rw [cellsOf_length]; exact h), cellsOf_get h, if_pos h]
  · rw [List.getElem?_append_right (by rw [cellsOf_length]; omega), cellsOf_length, cellsOf_get (by omega), if_neg h]
theorem cellsOf_snoc (N k : Nat) : cellsOf N k ++ [.bool (N.testBit k)] = cellsOf N (k + 1) := by
  simp [cellsOf, List.range_succ]
theorem cellsOf_cons (b : Bool) (N L : Nat) : .bool b :: cellsOf N L = cellsOf (b.toNat + 2 * N) (L + 1) := by
  have h1 : [Value.bool b] = cellsOf b.toNat 1 := by cases b <;> rfl
  have h2 := cellsOf_append (A := b.toNat) (B := N) (la := 1) (lb := L) (by cases b <;> decide)
  rw [← h1] at h2
  rw [Nat.add_comm L 1]
  simpa using h2
theorem cellsOf_none (L : Nat) : cellsOf 0 L = List.replicate L (.bool false) := by
  symm
  apply cellsOf_ext (by simp)
  intro i hi
  simp [hi]
theorem cellsOf_one {N L : Nat} {u : Value} (h : u ∈ cellsOf N L) : u.oneCell' = true := by
  simp [cellsOf] at h
  obtain ⟨i, _, rfl⟩ := h
  rfl
theorem cellsOf_set {N L k : Nat} (hk : k < L) (h0 : N.testBit k = false) : (cellsOf N L).set k (.bool true) = cellsOf (N + 2 ^ k) L := by
  apply cellsOf_ext (by simp [cellsOf_length])
  intro i hi
  have e : N + 2 ^ k = N ||| 2 ^ k := by
    apply Nat.eq_of_testBit_eq
    intro j
    rw [Nat.testBit_or, Nat.testBit_two_pow]
    have hd : N / 2 ^ k % 2 = 0 := by rw [tb] at h0; simp at h0; omega
    have hN : N = 2 ^ (k + 1) * (N / 2 ^ (k + 1)) + N % 2 ^ k := by
      have h1 := Nat.div_add_mod N (2 ^ (k + 1))
      have h2 : N % 2 ^ (k + 1) = N % 2 ^ k + 2 ^ k * (N / 2 ^ k % 2) := by rw [Nat.pow_succ, Nat.mod_mul]
      rw [hd] at h2
      omega
    have hlt : N % 2 ^ k < 2 ^ k := Nat.mod_lt _ (Nat.two_pow_pos k)
    have hp : 2 ^ (k + 1) = 2 ^ k + 2 ^ k := by rw [Nat.pow_succ]; omega
    have hS : N + 2 ^ k = 2 ^ (k + 1) * (N / 2 ^ (k + 1)) + (2 ^ k + N % 2 ^ k) := by omega
    rw [hS, Nat.testBit_two_pow_mul_add _ (by omega)]
    conv => rhs; rw [hN, Nat.testBit_two_pow_mul_add _ (by omega)]
    by_cases hj : j < k + 1
    · rw [if_pos hj, if_pos hj]
      by_cases hjk : j = k
      · subst hjk
        rw [Nat.testBit_two_pow_add_eq, Nat.testBit_lt_two_pow hlt]
        simp
      · rw [Nat.testBit_two_pow_add_gt (by omega)]
        simp; omega
    · rw [if_neg hj, if_neg hj]
      have : ¬ k = j := by omega
      simp [this]
  by_cases hik : i = k
  · subst hik
    rw [List.getElem?_set_self (by rw [cellsOf_length]; exact hi), e, Nat.testBit_or, Nat.testBit_two_pow]
    simp
  · rw [List.getElem?_set_ne (by omega), cellsOf_get hi, e, Nat.testBit_or, Nat.testBit_two_pow]
    have : ¬ k = i := by omega
    simp [this]

/-- What is carried into bit k. -/
def car (A B c k : Nat) : Nat := (A % 2 ^ k + B % 2 ^ k + c) / 2 ^ k
theorem car_zero (A B c : Nat) : car A B c 0 = c := by simp [car, Nat.mod_one]
theorem car_le (A B c k : Nat) (hc : c ≤ 1) : car A B c k ≤ 1 := by
  unfold car
  have hp := Nat.two_pow_pos k
  have h1 := Nat.mod_lt A hp
  have h2 := Nat.mod_lt B hp
  have : A % 2 ^ k + B % 2 ^ k + c < 2 * 2 ^ k := by omega
  have := (Nat.div_lt_iff_lt_mul hp).2 this
  omega
theorem car_bit (A B c k : Nat) : (A + B + c) / 2 ^ k % 2 = (A / 2 ^ k % 2 + B / 2 ^ k % 2 + car A B c k) % 2 := by
  unfold car
  have hp := Nat.two_pow_pos k
  have e : A + B + c = (A % 2 ^ k + B % 2 ^ k + c) + 2 ^ k * (A / 2 ^ k + B / 2 ^ k) := by
    have h1 := Nat.div_add_mod A (2 ^ k)
    have h2 := Nat.div_add_mod B (2 ^ k)
    rw [Nat.mul_add]
    omega
  rw [e, Nat.add_mul_div_left _ _ hp]
  generalize (A % 2 ^ k + B % 2 ^ k + c) / 2 ^ k = n
  omega
theorem car_succ (A B c k : Nat) : car A B c (k + 1) = (A / 2 ^ k % 2 + B / 2 ^ k % 2 + car A B c k) / 2 := by
  unfold car
  have hp := Nat.two_pow_pos k
  have h1 : A % 2 ^ (k + 1) = A % 2 ^ k + 2 ^ k * (A / 2 ^ k % 2) := by rw [Nat.pow_succ, Nat.mod_mul]
  have h2 : B % 2 ^ (k + 1) = B % 2 ^ k + 2 ^ k * (B / 2 ^ k % 2) := by rw [Nat.pow_succ, Nat.mod_mul]
  rw [h1, h2, Nat.pow_succ, ← Nat.div_div_eq_div_mul]
  have e : A % 2 ^ k + 2 ^ k * (A / 2 ^ k % 2) + (B % 2 ^ k + 2 ^ k * (B / 2 ^ k % 2)) + c = (A % 2 ^ k + B % 2 ^ k + c) + 2 ^ k * (A / 2 ^ k % 2 + B / 2 ^ k % 2) := by
    rw [Nat.mul_add]; omega
  rw [e, Nat.add_mul_div_left _ _ hp]
  congr 1
  omega

/-- a minus b, as a sum taken back: B + D = A. -/
theorem owe_step {A B D k : Nat} (h : B + D = A) : (A.testBit k).toNat + 2 * car B D 0 (k + 1) = (B.testBit k).toNat + (D.testBit k).toNat + car B D 0 k := by
  have h1 := car_bit B D 0 k
  have h2 := car_succ B D 0 k
  rw [Nat.add_zero, h] at h1
  rw [tb_toNat, tb_toNat, tb_toNat, h2, h1]
  omega

/-- -1, 0 or 1. -/
def cmpN (A B : Nat) : Int := if A < B then -1 else if B < A then 1 else 0
theorem cmp_less {A B k : Nat} (h : A / 2 ^ (k + 1) = B / 2 ^ (k + 1)) (ha : A.testBit k = false) (hb : B.testBit k = true) : cmpN A B = -1 := by
  have ha' := tb_toNat A k
  have hb' := tb_toNat B k
  rw [ha] at ha'; rw [hb] at hb'
  simp at ha' hb'
  rw [Nat.pow_succ, ← Nat.div_div_eq_div_mul, ← Nat.div_div_eq_div_mul] at h
  have hlt : A / 2 ^ k < B / 2 ^ k := by omega
  have : A < B := by
    refine Nat.lt_of_not_le fun hc => ?_
    have := Nat.div_le_div_right (c := 2 ^ k) hc
    omega
  simp [cmpN, this]
theorem cmp_more {A B k : Nat} (h : A / 2 ^ (k + 1) = B / 2 ^ (k + 1)) (ha : A.testBit k = true) (hb : B.testBit k = false) : cmpN A B = 1 := by
  have ha' := tb_toNat A k
  have hb' := tb_toNat B k
  rw [ha] at ha'; rw [hb] at hb'
  simp at ha' hb'
  rw [Nat.pow_succ, ← Nat.div_div_eq_div_mul, ← Nat.div_div_eq_div_mul] at h
  have hlt : B / 2 ^ k < A / 2 ^ k := by omega
  have : B < A := by
    refine Nat.lt_of_not_le fun hc => ?_
    have := Nat.div_le_div_right (c := 2 ^ k) hc
    omega
  have h2 : ¬ A < B := by omega
  simp [cmpN, this, h2]
theorem cmp_same {A B k : Nat} (h : A / 2 ^ (k + 1) = B / 2 ^ (k + 1)) (hb : A.testBit k = B.testBit k) : A / 2 ^ k = B / 2 ^ k := by
  have ha' := tb_toNat A k
  have hb' := tb_toNat B k
  rw [hb] at ha'
  rw [Nat.pow_succ, ← Nat.div_div_eq_div_mul, ← Nat.div_div_eq_div_mul] at h
  omega
theorem cmp_eq {A B : Nat} (h : A / 2 ^ 0 = B / 2 ^ 0) : cmpN A B = 0 := by
  simp at h
  simp [cmpN, h]

/-- One bit more from above. -/
theorem half_step (N k : Nat) : N / 2 ^ k = 2 * (N / 2 ^ (k + 1)) + (N.testBit k).toNat := by
  rw [tb_toNat, Nat.pow_succ, ← Nat.div_div_eq_div_mul]
  omega

theorem times_step (A B k : Nat) : A * (B % 2 ^ (k + 1)) = A * (B % 2 ^ k) + (if B.testBit k then 2 ^ k * A else 0) := by
  have h2 : B % 2 ^ (k + 1) = B % 2 ^ k + 2 ^ k * (B / 2 ^ k % 2) := by rw [Nat.pow_succ, Nat.mod_mul]
  rw [h2, Nat.mul_add, tb]
  by_cases h : B / 2 ^ k % 2 = 1
  · simp [h, Nat.mul_comm]
  · have : B / 2 ^ k % 2 = 0 := by omega
    simp [this]
theorem times_lt {A B la lb : Nat} (hA : A < 2 ^ la) (hB : B < 2 ^ lb) : A * B < 2 ^ (la + lb) := by
  rw [Nat.pow_add]
  exact Nat.mul_lt_mul'' hA hB

/-- One step of dividing. -/
theorem over_more {A D k : Nat} (hD : 0 < D) (h : D ≤ (A.testBit k).toNat + 2 * ((A / 2 ^ (k + 1)) % D)) :
    (A / 2 ^ k) / D = 2 * ((A / 2 ^ (k + 1)) / D) + 1 ∧ (A / 2 ^ k) % D = (A.testBit k).toNat + 2 * ((A / 2 ^ (k + 1)) % D) - D := by
  have hs := half_step A k
  have hb : (A.testBit k).toNat ≤ 1 := by cases A.testBit k <;> simp
  generalize (A.testBit k).toNat = b at *
  have hdm := Nat.div_add_mod (A / 2 ^ (k + 1)) D
  have hlt := Nat.mod_lt (A / 2 ^ (k + 1)) hD
  generalize (A / 2 ^ (k + 1)) / D = q at *
  generalize (A / 2 ^ (k + 1)) % D = r at *
  have e : A / 2 ^ k = (b + 2 * r - D) + D * (2 * q + 1) := by
    have : D * (2 * q + 1) = 2 * (D * q) + D := by rw [Nat.mul_add, Nat.mul_one, Nat.mul_left_comm]
    omega
  rw [e, Nat.add_mul_div_left _ _ hD, Nat.add_mul_mod_self_left, Nat.mod_eq_of_lt (by omega), Nat.div_eq_of_lt (by omega)]
  omega
theorem over_less {A D k : Nat} (hD : 0 < D) (h : (A.testBit k).toNat + 2 * ((A / 2 ^ (k + 1)) % D) < D) :
    (A / 2 ^ k) / D = 2 * ((A / 2 ^ (k + 1)) / D) ∧ (A / 2 ^ k) % D = (A.testBit k).toNat + 2 * ((A / 2 ^ (k + 1)) % D) := by
  have hs := half_step A k
  generalize (A.testBit k).toNat = b at *
  have hdm := Nat.div_add_mod (A / 2 ^ (k + 1)) D
  generalize (A / 2 ^ (k + 1)) / D = q at *
  generalize (A / 2 ^ (k + 1)) % D = r at *
  have e : A / 2 ^ k = (b + 2 * r) + D * (2 * q) := by
    have : D * (2 * q) = 2 * (D * q) := by rw [Nat.mul_left_comm]
    omega
  rw [e, Nat.add_mul_div_left _ _ hD, Nat.add_mul_mod_self_left, Nat.mod_eq_of_lt h, Nat.div_eq_of_lt h]
  omega
end Go.Proofs.Ytbkkblphaohgkaa
