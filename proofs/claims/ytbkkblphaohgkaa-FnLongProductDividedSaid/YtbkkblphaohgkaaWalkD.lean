/- Contracts of the functions that divide. -/
import Derived.Test.YtbkkblphaohgkaaWalkW
import Derived.Test.YtbkkblphaohgkaaDivMath
import Derived.Defers
import Derived.Recover
import Derived.Laws.Pointers
import Derived.RegionTactic
namespace Go.Proofs.Ytbkkblphaohgkaa
open Go.RowKit

theorem orJoin32 (hi lo : Int) (hh : U32 hi) (hl : U32 lo) : bits .or .u64 (hi * 4294967296) lo = hi * 4294967296 + lo := by
  obtain ⟨hh0, hh1⟩ := hh
  obtain ⟨hl0, hl1⟩ := hl
  obtain ⟨H, rfl⟩ := Int.eq_ofNat_of_zero_le hh0
  obtain ⟨L, rfl⟩ := Int.eq_ofNat_of_zero_le hl0
  have e := u64_or_nat (H * 4294967296) L (by omega) (by omega)
  rw [nat_join 32 (H * 4294967296) L (by omega) (by omega)] at e
  have e2 : ((H : Int) * 4294967296) = ((H * 4294967296 : Nat) : Int) := by omega
  rw [e2, e]
  omega
theorem len_close (x j : Int) (b : Nat) (hj : j.toNat = x.toNat / 2 ^ b) (h0 : x.toNat / 2 ^ b ≠ 0) (h256 : x.toNat / 2 ^ b < 256) (hb : b ≤ 56) : wrap64 (b + wrap64 (bitLen j.toNat : Nat)) = (bitLen x.toNat : Nat) := by
  rw [hj, bitLen_shift x.toNat b h0]
  have hl := bitLen_le8 _ h256
  unfold wrap64
  omega
theorem len_close0 (x : Int) (h256 : x.toNat < 256) : wrap64 (wrap64 (bitLen x.toNat : Nat)) = (bitLen x.toNat : Nat) := by
  have hl := bitLen_le8 _ h256
  unfold wrap64
  omega
theorem bitLen_le64 (x : Int) (hx : U64 x) : bitLen x.toNat ≤ 64 := by
  unfold U64 at hx
  unfold bitLen
  split
  · omega
  · rename_i h0
    have := (Nat.log2_lt h0).2 (show x.toNat < 2 ^ 64 by omega)
    omega
set_option maxHeartbeats 4000000 in
set_option maxRecDepth 100000 in
theorem bits_Len64 (x : Int) (hx : U64 x) (w : World) :
    Calls Try.prog 34 #[.int .u64 x] w fun e w' => e = .returned (.int .i64 (bitLen x.toNat)) ∧ w = w' := by
  obtain ⟨hx0, hx1⟩ := hx
  go_enter Try.func34, Try.ntmps34
  go_wp2
  all_goals go_ret
  all_goals refine ⟨ret1 ?_, rfl⟩
  all_goals rw [len8tab_get]
  · exact len_close x _ 56 (by omega) (by omega) (by omega) (by omega)
  · exact len_close x _ 48 (by omega) (by omega) (by omega) (by omega)
  · exact len_close x _ 40 (by omega) (by omega) (by omega) (by omega)
  · exact len_close x _ 32 (by omega) (by omega) (by omega) (by omega)
  · exact len_close x _ 24 (by omega) (by omega) (by omega) (by omega)
  · exact len_close x _ 16 (by omega) (by omega) (by omega) (by omega)
  · exact len_close x _ 8 (by omega) (by omega) (by omega) (by omega)
  · exact len_close0 x (by omega)
end Go.Proofs.Ytbkkblphaohgkaa
