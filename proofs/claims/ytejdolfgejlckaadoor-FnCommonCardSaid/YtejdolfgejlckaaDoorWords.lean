/- Plain arithmetic of words: what Add, Sub, Mul, Div and Rem of 64 and 32 bits compute, as functions of whole numbers, and the laws that follow. No program in sight. No conditions beside those written out. -/
import Derived.Laws.BitsAllLaws
namespace Go.Proofs.YtejdolfgejlckaaDoor

/-- A carry. -/
def B1 (c : Int) : Prop := 0 ≤ c ∧ c ≤ 1
theorem B1_0 : B1 0 := by unfold B1; omega
theorem B1_1 : B1 1 := by unfold B1; omega
theorem beq_of {a b : Int} (h : a = b) : (a == b) = true := by simp [h]
theorem mul_nn {x y : Int} (hx : 0 ≤ x) (hy : 0 ≤ y) : 0 ≤ x * y := Int.mul_nonneg hx hy

/-! words of 64 bits -/
def U64 (x : Int) : Prop := 0 ≤ x ∧ x < 18446744073709551616
def addS64 (x y c : Int) : Int := (x + y + c) % 18446744073709551616
def addC64 (x y c : Int) : Int := (x + y + c) / 18446744073709551616
def subD64 (x y b : Int) : Int := (x - y - b) % 18446744073709551616
def subB64 (x y b : Int) : Int := if x < y + b then 1 else 0
def mulH64 (x y : Int) : Int := x * y / 18446744073709551616
def mulL64 (x y : Int) : Int := x * y % 18446744073709551616
def divQ64 (hi lo y : Int) : Int := (hi * 18446744073709551616 + lo) / y
def divR64 (hi lo y : Int) : Int := (hi * 18446744073709551616 + lo) % y

theorem U64_0 : U64 0 := by unfold U64; omega
theorem U64_1 : U64 1 := by unfold U64; omega
theorem U64_of_B1 {c : Int} (h : B1 c) : U64 c := by unfold B1 at h; unfold U64; omega
theorem U64_addS (x y c : Int) : U64 (addS64 x y c) := by unfold U64 addS64; omega
theorem B1_addC64 {x y c : Int} (hx : U64 x) (hy : U64 y) (hc : B1 c) : B1 (addC64 x y c) := by unfold U64 at hx hy; unfold B1 at *; unfold addC64; omega
theorem U64_subD (x y c : Int) : U64 (subD64 x y c) := by unfold U64 subD64; omega
theorem B1_subB64 (x y c : Int) : B1 (subB64 x y c) := by unfold B1 subB64; split <;> omega
theorem U64_mulL (x y : Int) : U64 (mulL64 x y) := by unfold U64 mulL64; omega
theorem mul_bound64 {x y : Int} (hx : U64 x) (hy : U64 y) : 0 ≤ x * y ∧ x * y ≤ 18446744073709551615 * y ∧ x * y ≤ 18446744073709551615 * x := by
  unfold U64 at hx hy
  refine ⟨Int.mul_nonneg hx.1 hy.1, Int.mul_le_mul_of_nonneg_right (by omega) hy.1, ?_⟩
  rw [Int.mul_comm x y]
  exact Int.mul_le_mul_of_nonneg_right (by omega) hx.1
theorem U64_mulH {x y : Int} (hx : U64 x) (hy : U64 y) : U64 (mulH64 x y) := by
  have h := mul_bound64 hx hy
  unfold U64 at *; unfold mulH64
  generalize x * y = p at *
  omega
theorem div_spec64 (hi lo y : Int) (hy : 1 ≤ y) : divQ64 hi lo y * y + divR64 hi lo y = hi * 18446744073709551616 + lo ∧ 0 ≤ divR64 hi lo y ∧ divR64 hi lo y < y := by
  unfold divQ64 divR64
  have h := Int.mul_ediv_add_emod (hi * 18446744073709551616 + lo) y
  rw [Int.mul_comm] at h
  exact ⟨h, Int.emod_nonneg _ (by omega), Int.emod_lt_of_pos _ (by omega)⟩
theorem div_unique64 {hi lo y q r : Int} (hy : 1 ≤ y) (h : q * y + r = hi * 18446744073709551616 + lo) (h0 : 0 ≤ r) (h1 : r < y) : divQ64 hi lo y = q ∧ divR64 hi lo y = r := by
  unfold divQ64 divR64
  rw [← h]
  constructor
  · rw [Int.add_comm, Int.add_mul_ediv_right _ _ (by omega), Int.ediv_eq_zero_of_lt h0 h1, Int.zero_add]
  · rw [Int.add_comm, Int.add_mul_emod_self_right, Int.emod_eq_of_lt h0 h1]
theorem U64_divR {hi lo y : Int} (hy : U64 y) (hy1 : 1 ≤ y) : U64 (divR64 hi lo y) := by
  have h := div_spec64 hi lo y hy1
  unfold U64 at *; omega
theorem U64_divQ {hi lo y : Int} (hh : U64 hi) (hl : U64 lo) (hy1 : 1 ≤ y) (hlt : hi < y) : U64 (divQ64 hi lo y) := by
  unfold U64 at *; unfold divQ64
  refine ⟨Int.ediv_nonneg (by omega) (by omega), Int.ediv_lt_of_lt_mul (by omega) ?_⟩
  omega
theorem divR_zero64 (lo y : Int) : divR64 0 lo y = lo % y := by unfold divR64; simp
theorem mod_in64 {hi y : Int} (_hh : U64 hi) (hy : U64 y) (hy1 : 1 ≤ y) : U64 (hi % y) ∧ hi % y < y := by
  have h1 := Int.emod_nonneg hi (show y ≠ 0 by omega)
  have h2 := Int.emod_lt_of_pos hi (show 0 < y by omega)
  unfold U64 at *
  omega
theorem divR_mod64 (hi lo y : Int) : divR64 (hi % y) lo y = divR64 hi lo y := by
  unfold divR64
  rw [Int.add_emod, Int.mul_emod, Int.emod_emod, ← Int.mul_emod, ← Int.add_emod]

/-- A product by y, with less than y added, divided by y. -/
theorem qop64 {x y more : Int} (hx : U64 x) (hy : U64 y) (hy1 : 1 ≤ y) (hm0 : 0 ≤ more) (hm : more < y) :
    addC64 (mulH64 x y) 0 (addC64 (mulL64 x y) more 0) = 0 ∧ addS64 (mulH64 x y) 0 (addC64 (mulL64 x y) more 0) < y ∧
    divQ64 (addS64 (mulH64 x y) 0 (addC64 (mulL64 x y) more 0)) (addS64 (mulL64 x y) more 0) y = x ∧
    divR64 (addS64 (mulH64 x y) 0 (addC64 (mulL64 x y) more 0)) (addS64 (mulL64 x y) more 0) y = more := by
  have hb := mul_bound64 hx hy
  have key : addS64 (mulH64 x y) 0 (addC64 (mulL64 x y) more 0) * 18446744073709551616 + addS64 (mulL64 x y) more 0 = x * y + more ∧
      addC64 (mulH64 x y) 0 (addC64 (mulL64 x y) more 0) = 0 ∧ addS64 (mulH64 x y) 0 (addC64 (mulL64 x y) more 0) < y := by
    unfold U64 at hx hy
    unfold addS64 addC64 mulH64 mulL64
    generalize x * y = p at *
    omega
  have hd := div_unique64 (hi := addS64 (mulH64 x y) 0 (addC64 (mulL64 x y) more 0)) (lo := addS64 (mulL64 x y) more 0) hy1 key.1.symm hm0 hm
  exact ⟨key.2.1, key.2.2, hd.1, hd.2⟩

/-- Quotient times divisor plus remainder. -/
theorem divided64 {hi lo y : Int} (hh : U64 hi) (hl : U64 lo) (hy : U64 y) (hy1 : 1 ≤ y) (hlt : hi < y) :
    addC64 (mulH64 (divQ64 hi lo y) y) 0 (addC64 (mulL64 (divQ64 hi lo y) y) (divR64 hi lo y) 0) = 0 ∧
    addS64 (mulH64 (divQ64 hi lo y) y) 0 (addC64 (mulL64 (divQ64 hi lo y) y) (divR64 hi lo y) 0) = hi ∧
    addS64 (mulL64 (divQ64 hi lo y) y) (divR64 hi lo y) 0 = lo := by
  have hd := div_spec64 hi lo y hy1
  have hq := U64_divQ hh hl hy1 hlt
  have hb := mul_bound64 hq hy
  unfold U64 at *
  unfold addS64 addC64 mulH64 mulL64
  generalize divR64 hi lo y = r at *
  generalize divQ64 hi lo y = q at *
  generalize q * y = p at *
  omega

/-- Quotients rise. -/
theorem rise64 {hi lo top low y : Int} (hy1 : 1 ≤ y) (hl : U64 lo) (hw : U64 low) (h : hi < top ∨ (hi = top ∧ lo ≤ low)) : divQ64 hi lo y ≤ divQ64 top low y := by
  unfold divQ64 U64 at *
  exact Int.ediv_le_ediv (by omega) (by omega)
theorem fall64 {top low y z : Int} (ht : U64 top) (hw : U64 low) (hy1 : 1 ≤ y) (hz : y ≤ z) : divQ64 top low z ≤ divQ64 top low y := by
  have h1 := div_spec64 top low y hy1
  have h2 := div_spec64 top low z (by omega)
  unfold U64 at ht hw
  have hq : 0 ≤ divQ64 top low z := by unfold divQ64; exact Int.ediv_nonneg (by omega) (by omega)
  unfold divQ64 at *
  refine Int.le_ediv_of_mul_le (by omega) ?_
  have : (top * 18446744073709551616 + low) / z * y ≤ (top * 18446744073709551616 + low) / z * z := Int.mul_le_mul_of_nonneg_left hz hq
  omega
theorem once64 {y : Int} (hy1 : 1 ≤ y) : divQ64 0 y y = 1 ∧ divR64 0 y y = 0 := div_unique64 hy1 (by omega) (by omega) (by omega)

/-- Sums and differences undo each other. -/
theorem undone64 {x y k : Int} (hx : U64 x) (hy : U64 y) (hk : B1 k) :
    addS64 x y k = addS64 y x k ∧ addC64 x y k = addC64 y x k ∧ subD64 (addS64 x y k) y k = x ∧ subB64 (addS64 x y k) y k = addC64 x y k ∧
    addS64 (subD64 x y k) y k = x ∧ addC64 (subD64 x y k) y k = subB64 x y k := by
  unfold U64 at hx hy
  unfold B1 at hk
  unfold addS64 addC64 subD64 subB64
  refine ⟨by omega, by omega, by omega, ?_, by omega, ?_⟩
  · split <;> omega
  · split <;> omega

/-- x plus the complement of y. -/
theorem comp64 {x y k n : Int} (hx : U64 x) (hy : U64 y) (hk : B1 k) (hn : n = 18446744073709551615 - y) : addS64 x n (1 - k) = subD64 x y k ∧ addC64 x n (1 - k) = 1 - subB64 x y k := by
  unfold U64 at hx hy
  unfold B1 at hk
  unfold addS64 addC64 subD64 subB64
  subst hn
  refine ⟨by omega, ?_⟩
  split <;> omega

/-- Products: the order of factors; multiplying is distributive. -/
theorem mulH_comm64 (x y : Int) : mulH64 x y = mulH64 y x := by unfold mulH64; rw [Int.mul_comm]
theorem mulL_comm64 (x y : Int) : mulL64 x y = mulL64 y x := by unfold mulL64; rw [Int.mul_comm]
theorem distrib64 {x y z : Int} (hx : U64 x) (hy : U64 y) (hz : U64 z) :
    mulL64 x (addS64 y z 0) = addS64 (mulL64 x y) (mulL64 x z) 0 ∧
    addS64 (mulH64 x (addS64 y z 0)) (x * addC64 y z 0 % 18446744073709551616) 0 = addS64 (mulH64 x y) (mulH64 x z) (addC64 (mulL64 x y) (mulL64 x z) 0) ∧
    addC64 (mulH64 x y) (mulH64 x z) (addC64 (mulL64 x y) (mulL64 x z) 0) = addC64 (mulH64 x (addS64 y z 0)) (x * addC64 y z 0 % 18446744073709551616) 0 := by
  have h1 := mul_bound64 hx hy
  have h2 := mul_bound64 hx hz
  have h3 := mul_bound64 hx (U64_addS y z 0)
  have hc := B1_addC64 hy hz B1_0
  have hs : addS64 y z 0 + addC64 y z 0 * 18446744073709551616 = y + z := by unfold addS64 addC64; omega
  have e : x * addS64 y z 0 + x * addC64 y z 0 * 18446744073709551616 = x * y + x * z := by rw [← Int.mul_add, ← hs, Int.mul_add, Int.mul_assoc]
  have hc2 : addC64 y z 0 = 0 ∨ addC64 y z 0 = 1 := by unfold B1 at hc; omega
  have ex : x * addC64 y z 0 = 0 ∨ x * addC64 y z 0 = x := by rcases hc2 with h | h <;> rw [h] <;> simp
  unfold U64 at hx hy hz
  unfold mulL64 mulH64
  generalize addC64 y z 0 = over at *
  generalize addS64 y z 0 = s at *
  unfold addS64 addC64
  generalize x * y = p1 at *
  generalize x * z = p2 at *
  generalize x * s = p3 at *
  generalize x * over = p4 at *
  rcases ex with h | h <;> subst h <;> omega

/-! words of 32 bits -/
def U32 (x : Int) : Prop := 0 ≤ x ∧ x < 4294967296
def addS32 (x y c : Int) : Int := (x + y + c) % 4294967296
def addC32 (x y c : Int) : Int := (x + y + c) / 4294967296
def subD32 (x y b : Int) : Int := (x - y - b) % 4294967296
def subB32 (x y b : Int) : Int := if x < y + b then 1 else 0
def mulH32 (x y : Int) : Int := x * y / 4294967296
def mulL32 (x y : Int) : Int := x * y % 4294967296
def divQ32 (hi lo y : Int) : Int := (hi * 4294967296 + lo) / y
def divR32 (hi lo y : Int) : Int := (hi * 4294967296 + lo) % y

theorem U32_0 : U32 0 := by unfold U32; omega
theorem U32_1 : U32 1 := by unfold U32; omega
theorem U32_of_B1 {c : Int} (h : B1 c) : U32 c := by unfold B1 at h; unfold U32; omega
theorem U32_addS (x y c : Int) : U32 (addS32 x y c) := by unfold U32 addS32; omega
theorem B1_addC32 {x y c : Int} (hx : U32 x) (hy : U32 y) (hc : B1 c) : B1 (addC32 x y c) := by unfold U32 at hx hy; unfold B1 at *; unfold addC32; omega
theorem U32_subD (x y c : Int) : U32 (subD32 x y c) := by unfold U32 subD32; omega
theorem B1_subB32 (x y c : Int) : B1 (subB32 x y c) := by unfold B1 subB32; split <;> omega
theorem U32_mulL (x y : Int) : U32 (mulL32 x y) := by unfold U32 mulL32; omega
theorem mul_bound32 {x y : Int} (hx : U32 x) (hy : U32 y) : 0 ≤ x * y ∧ x * y ≤ 4294967295 * y ∧ x * y ≤ 4294967295 * x := by
  unfold U32 at hx hy
  refine ⟨Int.mul_nonneg hx.1 hy.1, Int.mul_le_mul_of_nonneg_right (by omega) hy.1, ?_⟩
  rw [Int.mul_comm x y]
  exact Int.mul_le_mul_of_nonneg_right (by omega) hx.1
theorem U32_mulH {x y : Int} (hx : U32 x) (hy : U32 y) : U32 (mulH32 x y) := by
  have h := mul_bound32 hx hy
  unfold U32 at *; unfold mulH32
  generalize x * y = p at *
  omega
theorem div_spec32 (hi lo y : Int) (hy : 1 ≤ y) : divQ32 hi lo y * y + divR32 hi lo y = hi * 4294967296 + lo ∧ 0 ≤ divR32 hi lo y ∧ divR32 hi lo y < y := by
  unfold divQ32 divR32
  have h := Int.mul_ediv_add_emod (hi * 4294967296 + lo) y
  rw [Int.mul_comm] at h
  exact ⟨h, Int.emod_nonneg _ (by omega), Int.emod_lt_of_pos _ (by omega)⟩
theorem div_unique32 {hi lo y q r : Int} (hy : 1 ≤ y) (h : q * y + r = hi * 4294967296 + lo) (h0 : 0 ≤ r) (h1 : r < y) : divQ32 hi lo y = q ∧ divR32 hi lo y = r := by
  unfold divQ32 divR32
  rw [← h]
  constructor
  · rw [Int.add_comm, Int.add_mul_ediv_right _ _ (by omega), Int.ediv_eq_zero_of_lt h0 h1, Int.zero_add]
  · rw [Int.add_comm, Int.add_mul_emod_self_right, Int.emod_eq_of_lt h0 h1]
theorem U32_divR {hi lo y : Int} (hy : U32 y) (hy1 : 1 ≤ y) : U32 (divR32 hi lo y) := by
  have h := div_spec32 hi lo y hy1
  unfold U32 at *; omega
theorem U32_divQ {hi lo y : Int} (hh : U32 hi) (hl : U32 lo) (hy1 : 1 ≤ y) (hlt : hi < y) : U32 (divQ32 hi lo y) := by
  unfold U32 at *; unfold divQ32
  refine ⟨Int.ediv_nonneg (by omega) (by omega), Int.ediv_lt_of_lt_mul (by omega) ?_⟩
  omega
theorem divR_zero32 (lo y : Int) : divR32 0 lo y = lo % y := by unfold divR32; simp
theorem mod_in32 {hi y : Int} (_hh : U32 hi) (hy : U32 y) (hy1 : 1 ≤ y) : U32 (hi % y) ∧ hi % y < y := by
  have h1 := Int.emod_nonneg hi (show y ≠ 0 by omega)
  have h2 := Int.emod_lt_of_pos hi (show 0 < y by omega)
  unfold U32 at *
  omega
theorem divR_mod32 (hi lo y : Int) : divR32 (hi % y) lo y = divR32 hi lo y := by
  unfold divR32
  rw [Int.add_emod, Int.mul_emod, Int.emod_emod, ← Int.mul_emod, ← Int.add_emod]

/-- A product by y, with less than y added, divided by y. -/
theorem qop32 {x y more : Int} (hx : U32 x) (hy : U32 y) (hy1 : 1 ≤ y) (hm0 : 0 ≤ more) (hm : more < y) :
    addC32 (mulH32 x y) 0 (addC32 (mulL32 x y) more 0) = 0 ∧ addS32 (mulH32 x y) 0 (addC32 (mulL32 x y) more 0) < y ∧
    divQ32 (addS32 (mulH32 x y) 0 (addC32 (mulL32 x y) more 0)) (addS32 (mulL32 x y) more 0) y = x ∧
    divR32 (addS32 (mulH32 x y) 0 (addC32 (mulL32 x y) more 0)) (addS32 (mulL32 x y) more 0) y = more := by
  have hb := mul_bound32 hx hy
  have key : addS32 (mulH32 x y) 0 (addC32 (mulL32 x y) more 0) * 4294967296 + addS32 (mulL32 x y) more 0 = x * y + more ∧
      addC32 (mulH32 x y) 0 (addC32 (mulL32 x y) more 0) = 0 ∧ addS32 (mulH32 x y) 0 (addC32 (mulL32 x y) more 0) < y := by
    unfold U32 at hx hy
    unfold addS32 addC32 mulH32 mulL32
    generalize x * y = p at *
    omega
  have hd := div_unique32 (hi := addS32 (mulH32 x y) 0 (addC32 (mulL32 x y) more 0)) (lo := addS32 (mulL32 x y) more 0) hy1 key.1.symm hm0 hm
  exact ⟨key.2.1, key.2.2, hd.1, hd.2⟩

/-- Quotient times divisor plus remainder. -/
theorem divided32 {hi lo y : Int} (hh : U32 hi) (hl : U32 lo) (hy : U32 y) (hy1 : 1 ≤ y) (hlt : hi < y) :
    addC32 (mulH32 (divQ32 hi lo y) y) 0 (addC32 (mulL32 (divQ32 hi lo y) y) (divR32 hi lo y) 0) = 0 ∧
    addS32 (mulH32 (divQ32 hi lo y) y) 0 (addC32 (mulL32 (divQ32 hi lo y) y) (divR32 hi lo y) 0) = hi ∧
    addS32 (mulL32 (divQ32 hi lo y) y) (divR32 hi lo y) 0 = lo := by
  have hd := div_spec32 hi lo y hy1
  have hq := U32_divQ hh hl hy1 hlt
  have hb := mul_bound32 hq hy
  unfold U32 at *
  unfold addS32 addC32 mulH32 mulL32
  generalize divR32 hi lo y = r at *
  generalize divQ32 hi lo y = q at *
  generalize q * y = p at *
  omega

/-- Quotients rise. -/
theorem rise32 {hi lo top low y : Int} (hy1 : 1 ≤ y) (hl : U32 lo) (hw : U32 low) (h : hi < top ∨ (hi = top ∧ lo ≤ low)) : divQ32 hi lo y ≤ divQ32 top low y := by
  unfold divQ32 U32 at *
  exact Int.ediv_le_ediv (by omega) (by omega)
theorem fall32 {top low y z : Int} (ht : U32 top) (hw : U32 low) (hy1 : 1 ≤ y) (hz : y ≤ z) : divQ32 top low z ≤ divQ32 top low y := by
  have h1 := div_spec32 top low y hy1
  have h2 := div_spec32 top low z (by omega)
  unfold U32 at ht hw
  have hq : 0 ≤ divQ32 top low z := by unfold divQ32; exact Int.ediv_nonneg (by omega) (by omega)
  unfold divQ32 at *
  refine Int.le_ediv_of_mul_le (by omega) ?_
  have : (top * 4294967296 + low) / z * y ≤ (top * 4294967296 + low) / z * z := Int.mul_le_mul_of_nonneg_left hz hq
  omega
theorem once32 {y : Int} (hy1 : 1 ≤ y) : divQ32 0 y y = 1 ∧ divR32 0 y y = 0 := div_unique32 hy1 (by omega) (by omega) (by omega)

/-- Sums and differences undo each other. -/
theorem undone32 {x y k : Int} (hx : U32 x) (hy : U32 y) (hk : B1 k) :
    addS32 x y k = addS32 y x k ∧ addC32 x y k = addC32 y x k ∧ subD32 (addS32 x y k) y k = x ∧ subB32 (addS32 x y k) y k = addC32 x y k ∧
    addS32 (subD32 x y k) y k = x ∧ addC32 (subD32 x y k) y k = subB32 x y k := by
  unfold U32 at hx hy
  unfold B1 at hk
  unfold addS32 addC32 subD32 subB32
  refine ⟨by omega, by omega, by omega, ?_, by omega, ?_⟩
  · split <;> omega
  · split <;> omega

/-- x plus the complement of y. -/
theorem comp32 {x y k n : Int} (hx : U32 x) (hy : U32 y) (hk : B1 k) (hn : n = 4294967295 - y) : addS32 x n (1 - k) = subD32 x y k ∧ addC32 x n (1 - k) = 1 - subB32 x y k := by
  unfold U32 at hx hy
  unfold B1 at hk
  unfold addS32 addC32 subD32 subB32
  subst hn
  refine ⟨by omega, ?_⟩
  split <;> omega

/-- Products: the order of factors; multiplying is distributive. -/
theorem mulH_comm32 (x y : Int) : mulH32 x y = mulH32 y x := by unfold mulH32; rw [Int.mul_comm]
theorem mulL_comm32 (x y : Int) : mulL32 x y = mulL32 y x := by unfold mulL32; rw [Int.mul_comm]
theorem distrib32 {x y z : Int} (hx : U32 x) (hy : U32 y) (hz : U32 z) :
    mulL32 x (addS32 y z 0) = addS32 (mulL32 x y) (mulL32 x z) 0 ∧
    addS32 (mulH32 x (addS32 y z 0)) (x * addC32 y z 0 % 4294967296) 0 = addS32 (mulH32 x y) (mulH32 x z) (addC32 (mulL32 x y) (mulL32 x z) 0) ∧
    addC32 (mulH32 x y) (mulH32 x z) (addC32 (mulL32 x y) (mulL32 x z) 0) = addC32 (mulH32 x (addS32 y z 0)) (x * addC32 y z 0 % 4294967296) 0 := by
  have h1 := mul_bound32 hx hy
  have h2 := mul_bound32 hx hz
  have h3 := mul_bound32 hx (U32_addS y z 0)
  have hc := B1_addC32 hy hz B1_0
  have hs : addS32 y z 0 + addC32 y z 0 * 4294967296 = y + z := by unfold addS32 addC32; omega
  have e : x * addS32 y z 0 + x * addC32 y z 0 * 4294967296 = x * y + x * z := by rw [← Int.mul_add, ← hs, Int.mul_add, Int.mul_assoc]
  have hc2 : addC32 y z 0 = 0 ∨ addC32 y z 0 = 1 := by unfold B1 at hc; omega
  have ex : x * addC32 y z 0 = 0 ∨ x * addC32 y z 0 = x := by rcases hc2 with h | h <;> rw [h] <;> simp
  unfold U32 at hx hy hz
  unfold mulL32 mulH32
  generalize addC32 y z 0 = over at *
  generalize addS32 y z 0 = s at *
  unfold addS32 addC32
  generalize x * y = p1 at *
  generalize x * z = p2 at *
  generalize x * s = p3 at *
  generalize x * over = p4 at *
  rcases ex with h | h <;> subst h <;> omega

/-- A product by a power of 2. -/
theorem up64 (x : Int) (K : Nat) (_hx : U64 x) (hK : K < 64) (p : Int) (hp : p = 2 ^ K) : mulL64 x p = x * 2 ^ K % 18446744073709551616 ∧ mulH64 x p = x / 2 / 2 ^ (63 - K) := by
  subst hp
  refine ⟨rfl, ?_⟩
  unfold mulH64
  have hp : (0 : Int) < 2 ^ K := Int.pow_pos (by decide)
  have e : (18446744073709551616 : Int) = 2 * 2 ^ (63 - K) * 2 ^ K := by
    rw [Int.mul_assoc, ← Int.pow_add, show 63 - K + K = 63 by omega]
    decide
  rw [e, Int.mul_ediv_mul_of_pos_left _ _ hp, Int.ediv_ediv_of_nonneg (by decide)]
theorem pow_in64 (K : Nat) (hK : K < 64) : (0 : Int) ≤ 2 ^ K ∧ (2 : Int) ^ K < 18446744073709551616 := by
  have h := Nat.pow_lt_pow_right (a := 2) (by omega) hK
  have e : (2 : Int) ^ K = ((2 ^ K : Nat) : Int) := by simp
  have e2 : (2 : Nat) ^ 64 = 18446744073709551616 := by decide
  rw [e]
  rw [e2] at h
  have h' := Int.ofNat_lt.2 h
  exact ⟨Int.natCast_nonneg _, h'⟩

/-- A product by a power of 2. -/
theorem up32 (x : Int) (K : Nat) (_hx : U32 x) (hK : K < 32) (p : Int) (hp : p = 2 ^ K) : mulL32 x p = x * 2 ^ K % 4294967296 ∧ mulH32 x p = x / 2 / 2 ^ (31 - K) := by
  subst hp
  refine ⟨rfl, ?_⟩
  unfold mulH32
  have hp : (0 : Int) < 2 ^ K := Int.pow_pos (by decide)
  have e : (4294967296 : Int) = 2 * 2 ^ (31 - K) * 2 ^ K := by
    rw [Int.mul_assoc, ← Int.pow_add, show 31 - K + K = 31 by omega]
    decide
  rw [e, Int.mul_ediv_mul_of_pos_left _ _ hp, Int.ediv_ediv_of_nonneg (by decide)]
theorem pow_in32 (K : Nat) (hK : K < 32) : (0 : Int) ≤ 2 ^ K ∧ (2 : Int) ^ K < 4294967296 := by
  have h := Nat.pow_lt_pow_right (a := 2) (by omega) hK
  have e : (2 : Int) ^ K = ((2 ^ K : Nat) : Int) := by simp
  have e2 : (2 : Nat) ^ 32 = 4294967296 := by decide
  rw [e]
  rw [e2] at h
  have h' := Int.ofNat_lt.2 h
  exact ⟨Int.natCast_nonneg _, h'⟩

end Go.Proofs.YtejdolfgejlckaaDoor
