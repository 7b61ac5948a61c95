/- The walk of the law FnLongProductDivided: out of the contracts of what it calls, it returns true; nothing that was in memory changes. -/
import Derived.Test.YtbkkblphaohgkaaLong4
namespace Go.Proofs.Ytbkkblphaohgkaa
open Go.RowKit
set_option linter.unusedVariables false
theorem word_newI (w : World) (v : Int) (hv : U64 v) (n : Nat) (hn : n = w.heap.size) : Wds (w.alloc (.cells #[.int .u64 v] 23)) (some ⟨n, 0, none⟩) v.toNat 1 := by
  obtain ⟨X, rfl⟩ := Int.eq_ofNat_of_zero_le hv.1
  refine word_new w X n ?_ hn
  have := hv.2
  rw [MM_eq]
  omega
theorem quotientI (A la : Nat) (v : Int) (hv : U64 v) (hv1 : 1 ≤ v) (hAl : A < MM ^ la) (hla : la ≤ 17592186043904) (AA : Option Addr) (ca : Nat) (w : World) (hA : Wds w AA (A * v.toNat) (la + 1)) :
    Calls Try.prog 19 #[.slice AA (la + 1) ca, .int .u64 v] w (RetQ w A (la + 1) 0) := by
  obtain ⟨X, rfl⟩ := Int.eq_ofNat_of_zero_le hv.1
  have h2 := hv.2
  have hX0 : 0 < X := by omega
  rw [Int.toNat_natCast] at hA
  have hlt : A * X < MM ^ (la + 1) := by
    rw [Nat.pow_succ]
    exact Nat.mul_lt_mul'' hAl (by rw [MM_eq]; omega)
  have h := laws_longQuotient AA ca (A * X) (la + 1) X w hA hlt hX0 (by omega) (by omega)
  rw [Nat.mul_div_cancel _ hX0, Nat.mul_mod_left] at h
  exact h
theorem productI (A la : Nat) (v : Int) (hv : U64 v) (hAl : A < MM ^ la) (hla : la ≤ 17592186043904) (AA AB : Option Addr) (ca cb : Nat) (w : World) (hA : Wds w AA A la) (hB : Wds w AB v.toNat 1) :
    Calls Try.prog 17 #[.slice AA la ca, .slice AB 1 cb] w (RetW w (A * v.toNat) (la + 1)) := by
  have h1 := hv.1
  have h2 := hv.2
  exact laws_longProduct AA AB ca cb A v.toNat la 1 w hA hB hAl (by rw [Nat.pow_one, MM_eq]; omega) (by omega)
set_option maxRecDepth 100000 in
set_option maxHeartbeats 4000000 in
theorem walk_FnLongProductDivided (AA : Option Addr) (ca A la : Nat) (y : Int) (w : World) (hA : Wds w AA A la) (hAl : A < MM ^ la) (hla : la ≤ 17592186043904) (hy : U64 y) :
    Calls Try.prog 8 #[.slice AA la ca, .int .u64 y] w fun e w' => e = .returned (.bool true) ∧ Below w.heap.size w w' := by
  obtain ⟨v, hv, hv1, hm⟩ : ∃ v : Int, U64 v ∧ 1 ≤ v ∧ ((y < 1 ∧ v = 1) ∨ (y = 1 ∧ v = 1) ∨ (1 < y ∧ v = y)) := by
    unfold U64 at *
    by_cases h : y < 1
    · exact ⟨1, by omega, by omega, .inl ⟨h, rfl⟩⟩
    · by_cases h1 : y = 1
      · exact ⟨1, by omega, by omega, .inr (.inl ⟨h1, rfl⟩)⟩
      · exact ⟨y, by omega, by omega, .inr (.inr ⟨by omega, rfl⟩)⟩
  have HN := hide (word_newI w v hv _ rfl)
  have HP := hide (productI A la v hv hAl hla)
  have HQ := hide (quotientI A la v hv hv1 hAl hla)
  have HA := hide hA
  have HZ := hide (dig_zero hAl (Nat.le_refl la))
  clear hA hAl
  obtain ⟨hy0, hy2⟩ := hy
  obtain ⟨hv0, hv2⟩ := hv
  rcases hm with ⟨hm1, rfl⟩ | ⟨rfl, rfl⟩ | ⟨hm1, rfl⟩
  all_goals
    go_enter Try.func8, Try.ntmps8
    go_wp2_with (first
      | (go_at_call 17; ((with_reducible refine (HP.out _ _ _ _ _ (HA.out.below (below_alloc _ _)) HN.out).mono ?_)); rintro e w1 ⟨A1, c1, rfl, hc1, R1, B1⟩)
      | (go_at_call 19; ((with_reducible refine (HQ.out _ _ _ R1.bits).mono ?_)); rintro e w2 ⟨A2, c2, rfl, hc2, R2, B2⟩; obtain ⟨b, rfl, hblt, hcells⟩ := R2.cells (by omega); have hcl := hcells la (by omega); rw [HZ.out] at hcl; clear hcells)
      | (go_at_call 20; ((with_reducible refine (slices_EqualW _ _ _ _ A la _ (R2.bits.take (by omega)) (HA.out.below (bt (bt (below_alloc _ _) B1) B2)) (by omega)).mono ?_)); rintro e w3 ⟨rfl, B3⟩; have hcl3 := (B3.cell (p := ⟨b, la, none⟩) hblt).trans hcl))
    go_ret
    exact ⟨rfl, bt (bt (bt (below_alloc _ _) B1) B2) B3⟩
end Go.Proofs.Ytbkkblphaohgkaa
