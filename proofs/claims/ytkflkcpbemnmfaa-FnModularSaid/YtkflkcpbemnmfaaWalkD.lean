/- Contracts of the functions that divide. -/
import Derived.Test.YtkflkcpbemnmfaaWalkW
import Derived.Test.YtkflkcpbemnmfaaDivMath
import Derived.Defers
import Derived.Recover
import Derived.Laws.Pointers
import Derived.RegionTactic
namespace Go.Proofs.Ytkflkcpbemnmfaa
open Go.RowKit

theorem orJoin32 (hi lo : Int) (hh : U32 hi) (hl : U32 lo) : bits .or .u64 (hi * 4294967296) lo = hi * 4294967296 + lo := by
  obtain ⟨hh0, hh1⟩ := hh
  obtain ⟨hl0, hl1⟩ := hl
  obtain ⟨H, rfl⟩ := Int.eq_ofNat_of_zero_le hh0
  obtain ⟨L, rfl⟩ := Int.eq_ofNat_of_zero_le hl0
  have e := u64_or_nat (H * 4294967296) L (by omega) (by omega)
  rw [nat_join 32 (H * 4294967296) L (by omega) (by omega)] at e
  have e2 : ((H : Int) * 4294967296) = ((H * 4294967296 : Nat) : Int) := by omega
  rw [e2, e]
  omega
theorem bits_Rem32 (hi lo y : Int) (hh : U32 hi) (hl : U32 lo) (hy : U32 y) (hy1 : 1 ≤ y) (w : World) :
    Calls Try.prog 43 #[.int .u32 hi, .int .u32 lo, .int .u32 y] w fun e w' => e = .returned (.int .u32 (divR32 hi lo y)) ∧ w = w' := by
  have hj := orJoin32 hi lo hh hl
  have hr := U32_divR (hi := hi) (lo := lo) hy hy1
  obtain ⟨hh0, hh1⟩ := hh
  obtain ⟨hl0, hl1⟩ := hl
  obtain ⟨hy0, hy2⟩ := hy
  have hn : ¬ y = 0 := by omega
  go_enter Try.func43, Try.ntmps43
  go_wp2
  go_ret
  refine ⟨ret1 ?_, rfl⟩
  show divR32 hi lo y % 4294967296 = _
  unfold U32 at hr
  omega
theorem rem32_idle (p : Addr) (x : Bool) (w : World) (hc : w.cell? p = some (.bool x)) (hz : w.frozen? p = false) :
    CallsD Try.prog 42 #[.pointer (some p)] .returning w fun e u' w' => e = .returned (.tuple #[]) ∧ u' = .returning ∧ w' = w.setCell p (.bool false) := by
  refine callsD_of_wpS Try.func42 rfl fun c₀ cs hu => ?_
  apply wpS_region
  simp [wpOpsS, go_sem, recoverD, hu, Try.ntmps42, hc, hz, bodyPostS, results, Try.results42]
  cases c₀
  simp_all
theorem rem32_caught (p : Addr) (x : Bool) (u : TypeId) (pv : Value) (older : List PanicEntry) (w : World) (hc : w.cell? p = some (.bool x)) (hz : w.frozen? p = false) :
    CallsD Try.prog 42 #[.pointer (some p)] (.panicking ({ v := .iface u pv, recovered := false } :: older)) w fun e u' w' =>
      e = .returned (.tuple #[]) ∧ u' = .panicking ({ v := .iface u pv, recovered := true } :: older) ∧ w' = w.setCell p (.bool true) := by
  refine callsD_of_wpS Try.func42 rfl fun c₀ cs hu => ?_
  apply wpS_region
  simp [wpOpsS, go_sem, recoverD, hu, Try.ntmps42, hc, hz, bodyPostS, results, Try.results42]
theorem impl_Rem32 (hi lo y : Int) (hh : U32 hi) (hl : U32 lo) (hy : U32 y) (hy1 : 1 ≤ y) (w : World) :
    Calls Try.prog 17 #[.int .u32 hi, .int .u32 lo, .int .u32 y] w fun e w' => e = .returned (.tuple #[.int .u32 (divR32 hi lo y), .bool false]) ∧ Below w.heap.size w w' := by
  have hmf : ∀ (fn : Fn) (first cap : Array Value) (w : World), (Instr.makeFunc fn first cap).run Try.prog w = .ok (.func fn first cap) w := fun _ _ _ _ => rfl
  go_enter_defers Try.func17, Try.ntmps17
  go_wp2_with (go_at_call 43; refine (bits_Rem32 hi lo y hh hl hy hy1 _).mono ?_; rintro e w' ⟨rfl, rfl⟩)
  refine leaves_cons (f := 42) (args := #[.pointer (some ⟨w.heap.size, 0, none⟩)]) (by simp) (by simp [go_sem]) ?_
  refine (rem32_idle ⟨w.heap.size, 0, none⟩ false _ ?_ ?_).mono ?_
  · simp [go_sem]
  · simp [go_sem]
  rintro e u' w'' ⟨rfl, rfl, rfl⟩
  simp [Leaves, settle, results, Try.results17, go_sem]
  exact (Below.refl _ _).alloc (Nat.le_refl _) _
theorem bits_Div32 (hi lo y : Int) (hh : U32 hi) (hl : U32 lo) (hy : U32 y) (hlt : hi < y) (w : World) :
    Calls Try.prog 52 #[.int .u32 hi, .int .u32 lo, .int .u32 y] w fun e w' => e = .returned (.tuple #[.int .u32 (divQ32 hi lo y), .int .u32 (divR32 hi lo y)]) ∧ Below w.heap.size w w' := by
  have hj := orJoin32 hi lo hh hl
  have hr := U32_divR (hi := hi) (lo := lo) hy (by unfold U32 at hh; omega)
  have hq := U32_divQ hh hl (by unfold U32 at hh; omega) hlt
  obtain ⟨hh0, hh1⟩ := hh
  obtain ⟨hl0, hl1⟩ := hl
  obtain ⟨hy0, hy2⟩ := hy
  have hn : ¬ y = 0 := by omega
  have hm : ¬ y ≤ hi := by omega
  have hz : (y != 0) = true := by simp; omega
  go_enter Try.func52, Try.ntmps52
  go_wp2_with fail
  go_region
  all_goals (try go_wp2_with fail)
  go_ret2
  refine ⟨ret2 ?_ ?_, (Below.refl _ _).drew⟩
  · show divQ32 hi lo y % 4294967296 = _
    unfold U32 at hq
    omega
  · show divR32 hi lo y % 4294967296 = _
    unfold U32 at hr
    omega
theorem len_close (x j : Int) (b : Nat) (hj : j.toNat = x.toNat / 2 ^ b) (h0 : x.toNat / 2 ^ b ≠ 0) (h256 : x.toNat / 2 ^ b < 256) (hb : b ≤ 56) : wrap64 (b + wrap64 (bitLen j.toNat : Nat)) = (bitLen x.toNat : Nat) := by
  rw [hj, bitLen_shift x.toNat b h0]
  have hl := bitLen_le8 _ h256
  unfold wrap64
  omega
theorem len_close0 (x : Int) (h256 : x.toNat < 256) : wrap64 (wrap64 (bitLen x.toNat : Nat)) = (bitLen x.toNat : Nat) := by
  have hl := bitLen_le8 _ h256
  unfold wrap64
  omega
theorem bitLen_le64 (x : Int) (hx : U64 x) : bitLen x.toNat ≤ 64 := by
  unfold U64 at hx
  unfold bitLen
  split
  · omega
  · rename_i h0
    have := (Nat.log2_lt h0).2 (show x.toNat < 2 ^ 64 by omega)
    omega
set_option maxHeartbeats 4000000 in
set_option maxRecDepth 100000 in
theorem bits_Len64 (x : Int) (hx : U64 x) (w : World) :
    Calls Try.prog 63 #[.int .u64 x] w fun e w' => e = .returned (.int .i64 (bitLen x.toNat)) ∧ w = w' := by
  obtain ⟨hx0, hx1⟩ := hx
  go_enter Try.func63, Try.ntmps63
  go_wp2
  all_goals go_ret
  all_goals refine ⟨ret1 ?_, rfl⟩
  all_goals rw [len8tab_get]
  · exact len_close x _ 56 (by omega) (by omega) (by omega) (by omega)
  · exact len_close x _ 48 (by omega) (by omega) (by omega) (by omega)
  · exact len_close x _ 40 (by omega) (by omega) (by omega) (by omega)
  · exact len_close x _ 32 (by omega) (by omega) (by omega) (by omega)
  · exact len_close x _ 24 (by omega) (by omega) (by omega) (by omega)
  · exact len_close x _ 16 (by omega) (by omega) (by omega) (by omega)
  · exact len_close x _ 8 (by omega) (by omega) (by omega) (by omega)
  · exact len_close0 x (by omega)
end Go.Proofs.Ytkflkcpbemnmfaa
