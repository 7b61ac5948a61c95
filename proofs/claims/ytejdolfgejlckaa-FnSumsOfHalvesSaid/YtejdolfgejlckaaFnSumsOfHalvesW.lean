/- The walk of the law FnSumsOfHalves: out of the contracts of what it calls, it returns true; nothing that was in memory changes. -/
import Derived.Test.YtejdolfgejlckaaWalkDiv
import Derived.Test.YtejdolfgejlckaaLaw
namespace Go.Proofs.Ytejdolfgejlckaa
open Go.RowKit
set_option linter.unusedVariables false
theorem halves_add {x y k xh xl yh yl : Int} (hxl : x % 4294967296 = xl) (hxh : x / 4294967296 = xh) (hyl : y % 4294967296 = yl) (hyh : y / 4294967296 = yh) (hx : U64 x) (hy : U64 y) (hk : B1 k) :
    addS64 x y k = addS32 xh yh (addC32 xl yl k) * 4294967296 + addS32 xl yl k ∧ addC64 x y k = addC32 xh yh (addC32 xl yl k) := by
  unfold U64 at hx hy
  unfold B1 at hk
  unfold addS64 addC64 addS32 addC32
  omega
theorem halves_sub {x y k xh xl yh yl : Int} (hxl : x % 4294967296 = xl) (hxh : x / 4294967296 = xh) (hyl : y % 4294967296 = yl) (hyh : y / 4294967296 = yh) (hx : U64 x) (hy : U64 y) (hk : B1 k) :
    subD64 x y k = subD32 xh yh (subB32 xl yl k) * 4294967296 + subD32 xl yl k ∧ subB64 x y k = subB32 xh yh (subB32 xl yl k) := by
  unfold U64 at hx hy
  unfold B1 at hk
  have hb : subB32 xl yl k = if xl < yl + k then 1 else 0 := rfl
  by_cases h : xl < yl + k
  · rw [if_pos h] at hb
    rw [hb]
    unfold subD64 subB64 subD32 subB32
    refine ⟨by omega, ?_⟩
    split <;> split <;> omega
  · rw [if_neg h] at hb
    rw [hb]
    unfold subD64 subB64 subD32 subB32
    refine ⟨by omega, ?_⟩
    split <;> split <;> omega
theorem wrap_sum (x y k : Int) : addS64 x y k = IntKind.u64.wrap (IntKind.u64.wrap (x + y) + k) := by
  rw [u64wrap, u64wrap]
  unfold addS64
  omega
set_option maxRecDepth 100000 in
set_option maxHeartbeats 4000000 in
theorem walk_FnSumsOfHalves (x y : Int) (c : Bool) (hx : U64 x) (hy : U64 y) (w : World) :
    Calls Try.prog 11 #[.int .u64 x, .int .u64 y, .bool c] w fun e w' => e = .returned (.bool true) ∧ Below w.heap.size w w' := by
  have hk := B1_bitI c
  have hk0 : 0 ≤ bitI c := hk.1
  have hk1 : bitI c ≤ 1 := hk.2
  have hx0 : 0 ≤ x := hx.1
  have hy0 : 0 ≤ y := hy.1
  have hx1 : x < 18446744073709551616 := hx.2
  have hy1 : y < 18446744073709551616 := hy.2
  have w0 := beq_of (wrap_sum x y (bitI c))
  generalize hxl : x % 4294967296 = xl
  generalize hyl : y % 4294967296 = yl
  generalize hxh : x / 4294967296 = xh
  generalize hyh : y / 4294967296 = yh
  have uxl : U32 xl := by unfold U32; omega
  have uyl : U32 yl := by unfold U32; omega
  have uxh : U32 xh := by unfold U32; omega
  have uyh : U32 yh := by unfold U32; omega
  have HA := halves_add hxl hxh hyl hyh hx hy hk
  have HS := halves_sub hxl hxh hyl hyh hx hy hk
  have bo := B1_addC32 uxl uyl hk
  have bo2 := B1_addC32 uxh uyh bo
  have bv := B1_subB32 xl yl (bitI c)
  have bv2 := B1_subB32 xh yh (subB32 xl yl (bitI c))
  have ja := orJoin32 _ _ (U32_addS xh yh (addC32 xl yl (bitI c))) (U32_addS xl yl (bitI c))
  have js := orJoin32 _ _ (U32_subD xh yh (subB32 xl yl (bitI c))) (U32_subD xl yl (bitI c))
  rw [← ja] at HA
  rw [← js] at HS
  clear ja js
  have u1 := U32_addS xl yl (bitI c)
  have u2 := U32_addS xh yh (addC32 xl yl (bitI c))
  have u3 := U32_subD xl yl (bitI c)
  have u4 := U32_subD xh yh (subB32 xl yl (bitI c))
  generalize g1 : addS32 xh yh (addC32 xl yl (bitI c)) = b at *
  generalize g2 : addS32 xl yl (bitI c) = a at *
  generalize g3 : subD32 xh yh (subB32 xl yl (bitI c)) = d at *
  generalize g4 : subD32 xl yl (bitI c) = u at *
  generalize g5 : addC32 xh yh (addC32 xl yl (bitI c)) = o2 at *
  generalize g6 : addC32 xl yl (bitI c) = o at *
  generalize g7 : subB32 xh yh (subB32 xl yl (bitI c)) = v2 at *
  generalize g8 : subB32 xl yl (bitI c) = v at *
  have s1 := beq_of HA.1
  have s2 := beq_of HA.2
  have s3 := beq_of HS.1
  have s4 := beq_of HS.2
  have b0 := u2.1
  have b1 := u2.2
  have a0 := u1.1
  have a1 := u1.2
  have u0 := u3.1
  have u9 := u3.2
  have d0 := u4.1
  have d1 := u4.2
  have o0 := bo2.1
  have o1 := bo2.2
  have v0 := bv2.1
  have v1 := bv2.2
  clear HA HS
  go_enter Try.func11, Try.ntmps11
  go_wp2_with (first | (go_at_call 18; ((with_reducible refine (laws_bit _ _).mono ?_); rintro e w1 ⟨rfl, rfl⟩)) | (go_at_call 23; ((with_reducible refine (impl_Add64 _ _ _ (by assumption) (by assumption) (by assumption) _).mono ?_); rintro e w1 ⟨rfl, rfl⟩)) | (go_at_call 25; ((with_reducible refine (impl_Sub64 _ _ _ (by assumption) (by assumption) (by assumption) _).mono ?_); rintro e w1 ⟨rfl, rfl⟩)) | (go_at_call 16; ((with_reducible refine (impl_Add32 _ _ _ (by assumption) (by assumption) (by assumption) _).mono ?_); rintro e w1 ⟨rfl, rfl⟩)) | (go_at_call 19; ((with_reducible refine (impl_Sub32 _ _ _ (by assumption) (by assumption) (by assumption) _).mono ?_); rintro e w1 ⟨rfl, rfl⟩)))
  go_ret
  exact ⟨rfl, Below.refl _ _⟩
end Go.Proofs.Ytejdolfgejlckaa
