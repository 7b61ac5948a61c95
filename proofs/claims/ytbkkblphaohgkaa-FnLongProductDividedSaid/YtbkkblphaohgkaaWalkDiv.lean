/- The contract of math/bits.Div64 where it does not panic (hi < y), digit by digit, and of what is built on it: quotient and remainder of hi times 2^64 plus lo by y. Nothing that was in memory changes. -/
import Derived.Test.YtbkkblphaohgkaaWalkD
import Derived.RegionTactic
import Derived.Deep.CutBlock
import Derived.Deep.DeepCutAuto
import Derived.Deep.LoopGhost
namespace Go.Proofs.Ytbkkblphaohgkaa
open Go.RowKit
/-- The box of a named result behind a call that leaves what was there. -/
theorem new_cell {w w1 : World} {v : Value} {t : TypeId} (hb : Below (w.alloc (.cells #[v] t)).heap.size (w.alloc (.cells #[v] t)) w1) :
    w1.cell? ⟨w.heap.size, 0, none⟩ = some v ∧ w1.frozen? ⟨w.heap.size, 0, none⟩ = false ∧ Below w.heap.size w w1 := by
  refine ⟨?_, ?_, ?_⟩
  · rw [hb.cell (p := ⟨w.heap.size, 0, none⟩) (by simp)]; simp [go_sem]
  · rw [hb.frozen (p := ⟨w.heap.size, 0, none⟩) (by simp)]; simp [go_sem]
  · exact ((Below.refl w.heap.size w).alloc (Nat.le_refl _) _).trans (hb.mono (by simp))
theorem bits_LeadingZeros64 (x : Int) (hx : U64 x) (w : World) :
    Calls Try.prog 33 #[.int .u64 x] w fun e w' => e = .returned (.int .i64 (64 - bitLen x.toNat : Nat)) ∧ w = w' := by
  have hl := bitLen_le64 x hx
  go_enter Try.func33, Try.ntmps33
  go_wp2_with (go_at_call 34; refine (bits_Len64 x hx _).mono ?_; rintro e w' ⟨rfl, rfl⟩)
  go_ret
  exact ⟨ret1 (by omega), rfl⟩
theorem div64_zero (lo y : Int) (hl : U64 lo) (hy : U64 y) (hy1 : 1 ≤ y) (w : World) :
    Calls Try.prog 32 #[.int .u64 0, .int .u64 lo, .int .u64 y] w fun e w' => e = .returned (.tuple #[.int .u64 (divQ64 0 lo y), .int .u64 (divR64 0 lo y)]) ∧ Below w.heap.size w w' := by
  obtain ⟨hl0, hl1⟩ := hl
  obtain ⟨hy0, hy2⟩ := hy
  have h0 : (y == 0) = false := by simp; omega
  have hn : ¬ y = 0 := by omega
  go_enter Try.func32, Try.ntmps32
  go_wp2
  go_region
  all_goals (try go_wp2)
  all_goals go_ret2
  exact ⟨ret2 (by unfold divQ64; simp) (by unfold divR64; simp), (Below.refl _ _).drew⟩
theorem wrap_rest {q Y r u v : Nat} (h : q * Y + r = u * 4294967296 + v) (hr : r < 18446744073709551616) :
    IntKind.u64.wrap (IntKind.u64.wrap (IntKind.u64.wrap ((u : Int) * 4294967296) + v) - IntKind.u64.wrap ((q : Int) * Y)) = r := by
  have h' : ((q * Y + r : Nat) : Int) = ((u * 4294967296 + v : Nat) : Int) := by rw [h]
  rw [Int.natCast_add, Int.natCast_mul] at h'
  simp only [u64wrap]
  generalize (q : Int) * Y = p at *
  omega
set_option maxRecDepth 100000 in
set_option maxHeartbeats 2000000 in
theorem div64_core (hi lo y : Int) (s Y n1 n0 u t u1 u0 Q1 R1 Q0 R0 : Nat) (hs : s ≤ 63) (hh : U64 hi) (hl : U64 lo) (hy : U64 y) (hlt : hi < y) (hpos : 0 < hi) (w : World)
    (hLZ : ∀ w, Calls Try.prog 33 #[.int .u64 y] w fun e w' => e = .returned (.int .i64 s) ∧ w = w')
    (e1 : IntKind.u64.wrap (y * 2 ^ s) = (Y : Int)) (e2 : (Y : Int) / 4294967296 = n1) (e3 : bits .and .u64 (Y : Int) 4294967295 = n0)
    (e4 : bits .or .u64 (IntKind.u64.wrap (hi * 2 ^ s)) (lo / 2 ^ (64 - s)) = u)
    (e5 : IntKind.u64.wrap (lo * 2 ^ s) = (t : Int)) (e6 : (t : Int) / 4294967296 = u1) (e7 : bits .and .u64 (t : Int) 4294967295 = u0)
    (hY : Y = n1 * 4294967296 + n0) (hn1 : 2147483648 ≤ n1) (hn1' : n1 < 4294967296) (hn0 : n0 < 4294967296) (hu1 : u1 < 4294967296) (hu0 : u0 < 4294967296) (hu : u < Y)
    (hq1 : Q1 * Y + R1 = u * 4294967296 + u1) (hr1 : R1 < Y) (hq0 : Q0 * Y + R0 = R1 * 4294967296 + u0) (hr0 : R0 < Y) :
    Calls Try.prog 32 #[.int .u64 hi, .int .u64 lo, .int .u64 y] w fun e w' => e = .returned (.tuple #[.int .u64 ((Q1 * 4294967296 + Q0 : Nat) : Int), .int .u64 ((R0 / 2 ^ s : Nat) : Int)]) ∧ Below w.heap.size w w' := by
  have HL := hide hLZ
  clear hLZ
  obtain ⟨hl0, hl1⟩ := hl
  obtain ⟨hy0, hy2⟩ := hy
  obtain ⟨hh0, hh2⟩ := hh
  have h0 : (y == 0) = false := by simp; omega
  have h1 : (hi == 0) = false := by simp; omega
  have hn : ¬ y = 0 := by omega
  have hm : ¬ y ≤ hi := by omega
  have HY := hide hY
  have HQ1 := hide hq1
  have HQ0 := hide hq0
  have hYl : Y < 18446744073709551616 := by omega
  have S1 := hide (dig_start (u := u) hY (by omega) hu1)
  have S2 := hide (dig_start (u := R1) hY (by omega) hu0)
  have Q1e : Hid (Q1 = (u * 4294967296 + u1) / Y) := by
    unfold Hid
    rw [← hq1, Nat.add_comm, Nat.add_mul_div_right _ _ (by omega), Nat.div_eq_of_lt hr1, Nat.zero_add]
  have Q0e : Hid (Q0 = (R1 * 4294967296 + u0) / Y) := by
    unfold Hid
    rw [← hq0, Nat.add_comm, Nat.add_mul_div_right _ _ (by omega), Nat.div_eq_of_lt hr0, Nat.zero_add]
  clear hY hq1 hq0
  have a1 : (u : Int) / (n1 : Int) = ((u / n1 : Nat) : Int) := by simp
  have a2 : (0 : Int) ≤ ((u / n1 : Nat) : Int) * n1 := Int.mul_nonneg (Int.natCast_nonneg _) (Int.natCast_nonneg _)
  have a3 : ((u / n1 : Nat) : Int) * n1 ≤ u := by
    have h := Nat.div_mul_le_self u n1
    generalize u / n1 = q at *
    have h' : ((q * n1 : Nat) : Int) ≤ (u : Int) := by omega
    rwa [Int.natCast_mul] at h'
  have a4 : u / n1 < 18446744073709551616 := Nat.lt_of_le_of_lt (Nat.div_le_self u n1) (by omega)
  generalize hqa : u / n1 = qa at *
  have Hqa := hide hqa
  clear hqa
  have hnn : ¬ n1 = 0 := by omega
  go_enter Try.func32, Try.ntmps32
  go_upto_block 0 with (go_at_call 33; refine (HL.out _).mono ?_; rintro e w' ⟨rfl, rfl⟩)
  go_cut [15, 16] (fun q _ wx => q = .int .u64 (Q1 : Int) ∧ w = wx)
  case first =>
    go_wp2_with fail
    go_loop [15, 16] (fun q r => ∃ q' r' : Nat, q = .int .u64 (q' : Int) ∧ r = .int .u64 (r' : Int) ∧ r' < 4294967296 ∧ q' < 18446744073709551616 ∧ Hid (DigInv u u1 Y n1 q' r')) (fun q _ => (intOf q).toNat)
    case atStart =>
      have hS := S1.out.1
      have hS' : (qa : Int) * n1 + ((u % n1 : Nat) : Int) = u := by rw [← Int.natCast_mul, ← Int.natCast_add, hS]
      refine ⟨qa, u % n1, rfl, ?_, Nat.lt_of_lt_of_le (Nat.mod_lt _ (by omega)) (by omega), a4, S1⟩
      generalize u % n1 = r at *
      exact congrArg _ (by omega)
    case round =>
      obtain ⟨q, r, rfl, rfl, hr, hq, hinv⟩ := hrel
      clear a1 a2 a3 a4 S1 S2 Hqa HQ1 HQ0 e1 e2 e3 e4 e5 e6 e7
      by_cases cA : (4294967296 : Int) ≤ (q : Int)
      · have st := dig_step HY.out hu hu1 hinv.out (.inl (by omega))
        have ST := hide st.2
        have hq1 := st.1
        clear st hinv
        by_cases cB : (4294967296 : Int) ≤ (r : Int) + (n1 : Int)
        · go_wp2_with fail
          go_meet
          have hb := dig_break HY.out hu hn0 ST.out (by omega)
          refine ⟨congrArg _ ?_, rfl⟩
          rw [Q1e.out, ← hb]
          omega
        · go_wp2_with fail
          go_round
          case rel => exact ⟨q - 1, r + n1, congrArg _ (by omega), congrArg _ (by omega), by omega, by omega, ST⟩
          case measure => simp [intOf]; omega
      · have hp0 : (0 : Int) ≤ (q : Int) * n0 := Int.mul_nonneg (Int.natCast_nonneg _) (Int.natCast_nonneg _)
        have hp1 : (q : Int) * n0 ≤ 18446744065119617025 := by
          have := Int.mul_le_mul (show (q : Int) ≤ 4294967295 by omega) (show (n0 : Int) ≤ 4294967295 by omega) (by omega) (by omega)
          omega
        by_cases cC : 4294967296 * (r : Int) + u1 < (q : Int) * n0
        · have cC' : 4294967296 * r + u1 < q * n0 := by
            have : ((4294967296 * r + u1 : Nat) : Int) < ((q * n0 : Nat) : Int) := by rw [Int.natCast_mul]; omega
            omega
          have st := dig_step HY.out hu hu1 hinv.out (.inr cC')
          have ST := hide st.2
          have hq1 := st.1
          clear st hinv cC'
          by_cases cB : (4294967296 : Int) ≤ (r : Int) + (n1 : Int)
          · go_wp2_with fail
            go_meet
            have hb := dig_break HY.out hu hn0 ST.out (by omega)
            refine ⟨congrArg _ ?_, rfl⟩
            rw [Q1e.out, ← hb]
            omega
          · go_wp2_with fail
            go_round
            case rel => exact ⟨q - 1, r + n1, congrArg _ (by omega), congrArg _ (by omega), by omega, by omega, ST⟩
            case measure => simp [intOf]; omega
        · have cC' : q * n0 ≤ 4294967296 * r + u1 := by
            have : ((q * n0 : Nat) : Int) ≤ ((4294967296 * r + u1 : Nat) : Int) := by rw [Int.natCast_mul]; omega
            omega
          have hb := dig_le HY.out (by omega) hinv.out cC'
          have HB := hide hb
          clear hb cC'
          go_wp2_with fail
          go_meet
          exact ⟨congrArg _ (by rw [Q1e.out, ← HB.out]), rfl⟩
  case rest =>
    obtain ⟨rfl, rfl⟩ := hcut
    clear a1 a2 a3 a4 S1 Hqa e1 e2 e3 e4 e5 e6 e7
    have q1l : Q1 < 4294967296 := by rw [Q1e.out]; exact dig_true_lt hu hu1
    have q0l : Q0 < 4294967296 := by rw [Q0e.out]; exact dig_true_lt hr1 hu0
    have b1 : IntKind.u64.wrap (IntKind.u64.wrap (IntKind.u64.wrap ((u : Int) * 4294967296) + u1) - IntKind.u64.wrap ((Q1 : Int) * Y)) = R1 := wrap_rest HQ1.out (by omega)
    have b2 : IntKind.u64.wrap (IntKind.u64.wrap (IntKind.u64.wrap ((R1 : Int) * 4294967296) + u0) - IntKind.u64.wrap ((Q0 : Int) * Y)) = R0 := wrap_rest HQ0.out (by omega)
    have c1 : (R1 : Int) / (n1 : Int) = ((R1 / n1 : Nat) : Int) := by simp
    have c2 : (0 : Int) ≤ ((R1 / n1 : Nat) : Int) * n1 := Int.mul_nonneg (Int.natCast_nonneg _) (Int.natCast_nonneg _)
    have c3 : ((R1 / n1 : Nat) : Int) * n1 ≤ R1 := by
      have h := Nat.div_mul_le_self R1 n1
      generalize R1 / n1 = q at *
      have h' : ((q * n1 : Nat) : Int) ≤ (R1 : Int) := by omega
      rwa [Int.natCast_mul] at h'
    have c4 : R1 / n1 < 18446744073709551616 := Nat.lt_of_le_of_lt (Nat.div_le_self R1 n1) (by omega)
    generalize hqb : R1 / n1 = qa at *
    have Hqb := hide hqb
    clear hqb
    go_upto_block 2 with (fail)
    go_cut [18, 16] (fun q _ wx => q = .int .u64 (Q0 : Int) ∧ w = wx)
    case first =>
      go_wp2_with fail
      go_loop [18, 16] (fun q r => ∃ q' r' : Nat, q = .int .u64 (q' : Int) ∧ r = .int .u64 (r' : Int) ∧ r' < 4294967296 ∧ q' < 18446744073709551616 ∧ Hid (DigInv R1 u0 Y n1 q' r')) (fun q _ => (intOf q).toNat)
      case atStart =>
        have hS := S2.out.1
        have hS' : (qa : Int) * n1 + ((R1 % n1 : Nat) : Int) = R1 := by rw [← Int.natCast_mul, ← Int.natCast_add, hS]
        refine ⟨qa, R1 % n1, rfl, ?_, Nat.lt_of_lt_of_le (Nat.mod_lt _ (by omega)) (by omega), c4, S2⟩
        generalize R1 % n1 = r at *
        exact congrArg _ (by omega)
      case round =>
        obtain ⟨q, r, rfl, rfl, hr, hq, hinv⟩ := hrel
        clear c1 c2 c3 c4 S2 Hqb HQ1 HQ0
        by_cases cA : (4294967296 : Int) ≤ (q : Int)
        · have st := dig_step HY.out hr1 hu0 hinv.out (.inl (by omega))
          have ST := hide st.2
          have hq1 := st.1
          clear st hinv
          by_cases cB : (4294967296 : Int) ≤ (r : Int) + (n1 : Int)
          · go_wp2_with fail
            go_meet
            have hb := dig_break HY.out hr1 hn0 ST.out (by omega)
            refine ⟨congrArg _ ?_, rfl⟩
            rw [Q0e.out, ← hb]
            omega
          · go_wp2_with fail
            go_round
            case rel => exact ⟨q - 1, r + n1, congrArg _ (by omega), congrArg _ (by omega), by omega, by omega, ST⟩
            case measure => simp [intOf]; omega
        · have hp0 : (0 : Int) ≤ (q : Int) * n0 := Int.mul_nonneg (Int.natCast_nonneg _) (Int.natCast_nonneg _)
          have hp1 : (q : Int) * n0 ≤ 18446744065119617025 := by
            have := Int.mul_le_mul (show (q : Int) ≤ 4294967295 by omega) (show (n0 : Int) ≤ 4294967295 by omega) (by omega) (by omega)
            omega
          by_cases cC : 4294967296 * (r : Int) + u0 < (q : Int) * n0
          · have cC' : 4294967296 * r + u0 < q * n0 := by
              have : ((4294967296 * r + u0 : Nat) : Int) < ((q * n0 : Nat) : Int) := by rw [Int.natCast_mul]; omega
              omega
            have st := dig_step HY.out hr1 hu0 hinv.out (.inr cC')
            have ST := hide st.2
            have hq1 := st.1
            clear st hinv cC'
            by_cases cB : (4294967296 : Int) ≤ (r : Int) + (n1 : Int)
            · go_wp2_with fail
              go_meet
              have hb := dig_break HY.out hr1 hn0 ST.out (by omega)
              refine ⟨congrArg _ ?_, rfl⟩
              rw [Q0e.out, ← hb]
              omega
            · go_wp2_with fail
              go_round
              case rel => exact ⟨q - 1, r + n1, congrArg _ (by omega), congrArg _ (by omega), by omega, by omega, ST⟩
              case measure => simp [intOf]; omega
          · have cC' : q * n0 ≤ 4294967296 * r + u0 := by
              have : ((q * n0 : Nat) : Int) ≤ ((4294967296 * r + u0 : Nat) : Int) := by rw [Int.natCast_mul]; omega
              omega
            have hb := dig_le HY.out (by omega) hinv.out cC'
            have HB := hide hb
            clear hb cC'
            go_wp2_with fail
            go_meet
            exact ⟨congrArg _ (by rw [Q0e.out, ← HB.out]), rfl⟩

    case rest =>
      obtain ⟨rfl, rfl⟩ := hcut
      clear c1 c2 c3 c4 S2 Hqb
      go_wp2_with fail
      go_ret2
      exact ⟨ret2 (by omega) (by simp), Below.refl _ _⟩

/-- Div64 where it does not panic. -/
theorem bits_Div64 (hi lo y : Int) (hh : U64 hi) (hl : U64 lo) (hy : U64 y) (hlt : hi < y) (w : World) :
    Calls Try.prog 32 #[.int .u64 hi, .int .u64 lo, .int .u64 y] w fun e w' => e = .returned (.tuple #[.int .u64 (divQ64 hi lo y), .int .u64 (divR64 hi lo y)]) ∧ Below w.heap.size w w' := by
  by_cases hz : hi = 0
  · subst hz
    exact div64_zero lo y hl hy (by omega) w
  have hh' := hh
  have hl' := hl
  have hy' := hy
  have hz' := bits_LeadingZeros64 y hy
  obtain ⟨hl0, hl1⟩ := hl
  obtain ⟨hy0, hy2⟩ := hy
  obtain ⟨hh0, hh2⟩ := hh
  obtain ⟨H, rfl⟩ := Int.eq_ofNat_of_zero_le hh0
  obtain ⟨L, rfl⟩ := Int.eq_ofNat_of_zero_le hl0
  obtain ⟨D, rfl⟩ := Int.eq_ofNat_of_zero_le hy0
  rw [Int.toNat_natCast] at hz'
  obtain ⟨hs, hb1, hb2⟩ := norm_shift D (by omega) (by omega)
  obtain ⟨n1, n0, u, t, u1, u0, Q1, R1, Q0, R0, e2, e3, e4, e5, e6, e7, hY, b1, b2, b3, b4, b5, b6, q1, r1, q0, r0, f1, f2⟩ := div_setup H L D (64 - bitLen D) (by omega) (by omega) hs hb1 hb2
  refine (div64_core H L D (64 - bitLen D) (D * 2 ^ (64 - bitLen D)) n1 n0 u t u1 u0 Q1 R1 Q0 R0 hs hh' hl' hy' hlt (by omega) w hz' (shl_in D _ hb2) e2 e3 e4 e5 e6 e7 hY b1 b2 b3 b4 b5 b6 q1 r1 q0 r0).mono ?_
  rintro e w' ⟨rfl, hb⟩
  have hd := div_unique64 (hi := H) (lo := L) (y := D) (q := (Q1 * 4294967296 + Q0 : Nat)) (r := (R0 / 2 ^ (64 - bitLen D) : Nat)) (by omega) (nat_div_int f1) (Int.natCast_nonneg _) (by omega)
  rw [hd.1, hd.2]
  exact ⟨rfl, hb⟩
theorem div64_idle (p : Addr) (x : Bool) (w : World) (hc : w.cell? p = some (.bool x)) (hz : w.frozen? p = false) :
    CallsD Try.prog 31 #[.pointer (some p)] .returning w fun e u' w' => e = .returned (.tuple #[]) ∧ u' = .returning ∧ w' = w.setCell p (.bool false) := by
  refine callsD_of_wpS Try.func31 rfl fun c₀ cs hu => ?_
  apply wpS_region
  simp [wpOpsS, go_sem, recoverD, hu, Try.ntmps31, hc, hz, bodyPostS, results, Try.results31]
  cases c₀
  simp_all
theorem impl_Div64 (hi lo y : Int) (hh : U64 hi) (hl : U64 lo) (hy : U64 y) (hlt : hi < y) (w : World) :
    Calls Try.prog 27 #[.int .u64 hi, .int .u64 lo, .int .u64 y] w fun e w' => e = .returned (.tuple #[.int .u64 (divQ64 hi lo y), .int .u64 (divR64 hi lo y), .bool false]) ∧ Below w.heap.size w w' := by
  have hmf : ∀ (fn : Fn) (first cap : Array Value) (w : World), (Instr.makeFunc fn first cap).run Try.prog w = .ok (.func fn first cap) w := fun _ _ _ _ => rfl
  go_enter_defers Try.func27, Try.ntmps27
  go_wp2_with (go_at_call 32; refine (bits_Div64 hi lo y hh hl hy hlt _).mono ?_; rintro e w1 ⟨rfl, hb⟩; obtain ⟨hc1, hf1, hs1⟩ := new_cell hb)
  refine leaves_cons (f := 31) (args := #[.pointer (some ⟨w.heap.size, 0, none⟩)]) (by simp) (by simp [go_sem]) ?_
  refine (div64_idle ⟨w.heap.size, 0, none⟩ false _ ?_ ?_).mono ?_
  · simp [go_sem, hc1]
  · simp [go_sem, hf1]
  rintro e u' w'' ⟨rfl, rfl, rfl⟩
  simp [Leaves, settle, results, Try.results27, go_sem, hc1]
  exact (hs1.setCell (Nat.le_refl _) _).setCell (Nat.le_refl _) _
end Go.Proofs.Ytbkkblphaohgkaa
