/- The walk of the law FnProductsOfHalves: out of the contracts of what it calls, it returns true; nothing that was in memory changes. -/
import Derived.Test.YtejdolfgejlckaaWalkDiv
import Derived.Test.YtejdolfgejlckaaLaw
namespace Go.Proofs.Ytejdolfgejlckaa
open Go.RowKit
set_option linter.unusedVariables false
/-- The product of the lower halves. -/
def halfP (a b : Int) : Int := a % 4294967296 * (b % 4294967296)
theorem halfP_bound (a b : Int) : 0 ≤ halfP a b ∧ halfP a b ≤ 18446744065119617025 := by
  unfold halfP
  refine ⟨Int.mul_nonneg (by omega) (by omega), ?_⟩
  have := Int.mul_le_mul (show a % 4294967296 ≤ 4294967295 by omega) (show b % 4294967296 ≤ 4294967295 by omega) (by omega) (by omega)
  omega
theorem halfP_U (a b : Int) : U64 (halfP a b) := by have := halfP_bound a b; unfold U64; omega
theorem halfP_join (a b : Int) : mulH32 (a % 4294967296) (b % 4294967296) * 4294967296 + mulL32 (a % 4294967296) (b % 4294967296) = halfP a b := by
  unfold mulH32 mulL32 halfP
  omega
theorem halves_mul {x y : Int} (hx : U64 x) (hy : U64 y) :
    x * y = halfP (x / 4294967296) (y / 4294967296) * 18446744073709551616 + (halfP (x / 4294967296) y + halfP x (y / 4294967296)) * 4294967296 + halfP x y := by
  unfold U64 at hx hy
  unfold halfP
  have ex : x = x / 4294967296 * 4294967296 + x % 4294967296 := by omega
  have ey : y = y / 4294967296 * 4294967296 + y % 4294967296 := by omega
  have e1 : x / 4294967296 % 4294967296 = x / 4294967296 := by omega
  have e2 : y / 4294967296 % 4294967296 = y / 4294967296 := by omega
  rw [e1, e2]
  generalize x / 4294967296 = a at *
  generalize x % 4294967296 = b at *
  generalize y / 4294967296 = c at *
  generalize y % 4294967296 = d at *
  subst ex ey
  exact split_mul a b c d
theorem halves_law {x y lw on tw hg : Int} (h : x * y = hg * 18446744073709551616 + (on + tw) * 4294967296 + lw) (h1 : 0 ≤ lw ∧ lw ≤ 18446744065119617025) (h2 : 0 ≤ on ∧ on ≤ 18446744065119617025)
    (h3 : 0 ≤ tw ∧ tw ≤ 18446744065119617025) (h4 : 0 ≤ hg ∧ hg ≤ 18446744065119617025) (hx : U64 x) (hy : U64 y) (o t : Int) (ho : o = on * 4294967296 % 18446744073709551616) (ht : t = tw * 4294967296 % 18446744073709551616) :
    mulL64 x y = addS64 (addS64 lw o 0) t 0 ∧
    mulH64 x y = addS64 (addS64 hg (on / 4294967296) (addC64 lw o 0)) (tw / 4294967296) (addC64 (addS64 lw o 0) t 0) ∧
    addC64 hg (on / 4294967296) (addC64 lw o 0) = 0 ∧ addC64 (addS64 hg (on / 4294967296) (addC64 lw o 0)) (tw / 4294967296) (addC64 (addS64 lw o 0) t 0) = 0 := by
  have hb := mul_bound64 hx hy
  unfold U64 at hx hy
  unfold mulL64 mulH64 addS64 addC64
  generalize x * y = p at *
  subst ho ht
  omega
theorem part_any (a b : Int) (ha : U64 a) (hb : U64 b) (w : World) :
    Calls Try.prog 22 #[.int .u64 a, .int .u64 b] w fun e w' => e = .returned (.int .u64 (halfP a b)) ∧ w = w' := by
  have ua : U32 (a % 4294967296) := by unfold U32; omega
  have ub : U32 (b % 4294967296) := by unfold U32; omega
  have hj := orJoin32 _ _ (U32_mulH ua ub) (U32_mulL (a % 4294967296) (b % 4294967296))
  rw [halfP_join] at hj
  have h1 := (U32_mulH ua ub).1
  have h2 := (U32_mulH ua ub).2
  have h3 := (U32_mulL (a % 4294967296) (b % 4294967296)).1
  have h4 := (U32_mulL (a % 4294967296) (b % 4294967296)).2
  go_enter Try.func22, Try.ntmps22
  go_wp2_with (go_at_call 15; ((with_reducible refine (impl_Mul32 _ _ ua ub _).mono ?_); rintro e w1 ⟨rfl, rfl⟩))
  go_ret
  exact ⟨rfl, rfl⟩
set_option maxRecDepth 100000 in
set_option maxHeartbeats 4000000 in
theorem walk_FnProductsOfHalves (x y : Int) (hx : U64 x) (hy : U64 y) (w : World) :
    Calls Try.prog 9 #[.int .u64 x, .int .u64 y] w fun e w' => e = .returned (.bool true) ∧ Below w.heap.size w w' := by
  have hmf : ∀ (fn : Fn) (first cap : Array Value) (w : World), (Instr.makeFunc fn first cap).run Try.prog w = .ok (.func fn first cap) w := fun _ _ _ _ => rfl
  have hx0 : 0 ≤ x := hx.1
  have hy0 : 0 ≤ y := hy.1
  have hx1 : x < 18446744073709551616 := hx.2
  have hy1 : y < 18446744073709551616 := hy.2
  have uxh : U64 (x / 4294967296) := by unfold U64; omega
  have uyh : U64 (y / 4294967296) := by unfold U64; omega
  have e1 := u64wrap (halfP (x / 4294967296) y * 4294967296)
  have e2 := u64wrap (halfP x (y / 4294967296) * 4294967296)
  have H := halves_law (halves_mul hx hy) (halfP_bound _ _) (halfP_bound _ _) (halfP_bound _ _) (halfP_bound _ _) hx hy _ _ e1 e2
  have uo : U64 (IntKind.u64.wrap (halfP (x / 4294967296) y * 4294967296)) := by rw [e1]; unfold U64; omega
  have ut : U64 (IntKind.u64.wrap (halfP x (y / 4294967296) * 4294967296)) := by rw [e2]; unfold U64; omega
  have b1 := halfP_bound (x / 4294967296) y
  have b2 := halfP_bound x (y / 4294967296)
  have uo2 : U64 (halfP (x / 4294967296) y / 4294967296) := by unfold U64; omega
  have ut2 : U64 (halfP x (y / 4294967296) / 4294967296) := by unfold U64; omega
  have ul := halfP_U x y
  have uh := halfP_U (x / 4294967296) (y / 4294967296)
  clear e1 e2 b1 b2
  generalize g1 : IntKind.u64.wrap (halfP (x / 4294967296) y * 4294967296) = o at *
  generalize g2 : IntKind.u64.wrap (halfP x (y / 4294967296) * 4294967296) = t at *
  have c1 := B1_addC64 ul uo B1_0
  have c2 := B1_addC64 (U64_addS (halfP x y) o 0) ut B1_0
  have s1 := beq_of H.1
  have s2 := beq_of H.2.1
  have s3 := beq_of H.2.2.1
  have s4 := beq_of H.2.2.2
  have s5 : (mulL64 x y == IntKind.u64.wrap (x * y)) = true := beq_of (by rw [u64wrap]; rfl)
  clear H
  go_enter Try.func9, Try.ntmps9
  go_wp2_with (first | (go_at_call 22; ((with_reducible refine (part_any _ _ (by assumption) (by assumption) _).mono ?_); rintro e w1 ⟨rfl, rfl⟩)) | (go_at_call 23; ((with_reducible refine (impl_Add64 _ _ _ (by first | assumption | exact U64_addS _ _ _) (by assumption) (by first | assumption | exact B1_0) _).mono ?_); rintro e w1 ⟨rfl, rfl⟩)) | (go_at_call 24; ((with_reducible refine (impl_Mul64 _ _ (by assumption) (by assumption) _).mono ?_); rintro e w1 ⟨rfl, rfl⟩)))
  go_ret
  exact ⟨rfl, Below.refl _ _⟩
end Go.Proofs.Ytejdolfgejlckaa
