/- The reference's rows of bits in memory: what it is to hold one; the contracts of Of, one, At and Value. -/
import Derived.Test.YtbkkblphaohgkaaBits
import Derived.Test.YtbkkblphaohgkaaLaw
namespace Go.Proofs.Ytbkkblphaohgkaa
open Go.RowKit
set_option linter.unusedVariables false

/-- The slice with the address A holds the lowest L bits of N. -/
def Bits (w : World) (A : Option Addr) (N L : Nat) : Prop :=
  0 < L → ∃ b o, A = some ⟨b, o, none⟩ ∧ b < w.heap.size ∧ ∀ i, i < L → w.cell? ⟨b, o + i, none⟩ = some (.bool (N.testBit i))
/-- The slice value v is the call's own row, and holds the lowest L bits of N. -/
def Own (w : World) (base : Nat) (v : Value) (N L : Nat) : Prop := w.ownsRow base 4 1 v L (cellsOf N L)
/-- A row of the call's own is returned; what was there before is as it was. -/
def RetOwn (w : World) (N L : Nat) (e : Ending) (w' : World) : Prop := ∃ A c, e = .returned (.slice A L c) ∧ L ≤ c ∧ Own w' w.heap.size (.slice A L c) N L ∧ Below w.heap.size w w'

theorem bool_info : (Try.prog.info? 4).map (fun i => (i.zero, i.size, i.bytes)) = some (some (.bool false), 1, 1) := by kernel_rfl

section
variable {w w' : World} {base N L : Nat} {A : Option Addr} {v : Value}
theorem Bits.none_ (w : World) (A : Option Addr) (N : Nat) : Bits w A N 0 := fun h => absurd h (by omega)
theorem Bits.below (h : Bits w A N L) (hb : Below w.heap.size w w') : Bits w' A N L := fun hL => by
  obtain ⟨b, o, rfl, hlt, hc⟩ := h hL
  exact ⟨b, o, rfl, Nat.lt_of_lt_of_le hlt hb.size, fun i hi => (hb.cell (p := ⟨b, o + i, none⟩) hlt).trans (hc i hi)⟩
theorem Bits.congr {M : Nat} (h : Bits w A N L) (he : ∀ i, i < L → N.testBit i = M.testBit i) : Bits w A M L := fun hL => by
  obtain ⟨b, o, rfl, hlt, hc⟩ := h hL
  exact ⟨b, o, rfl, hlt, fun i hi => by rw [hc i hi, he i hi]⟩
theorem Bits.take {k : Nat} (h : Bits w A N L) (hk : k ≤ L) : Bits w A N k := fun hL => by
  obtain ⟨b, o, rfl, hlt, hc⟩ := h (by omega)
  exact ⟨b, o, rfl, hlt, fun i hi => hc i (by omega)⟩
theorem Bits.drop {k : Nat} (h : Bits w A N L) (hk : k < L) : Bits w (A.map (·.add k)) (N / 2 ^ k) (L - k) := fun hL => by
  obtain ⟨b, o, rfl, hlt, hc⟩ := h (by omega)
  refine ⟨b, o + k, ?_, hlt, fun i hi => ?_⟩
  · simp [Addr.add]
  · rw [Nat.testBit_div_two_pow, Nat.add_assoc, hc (k + i) (by omega), Nat.add_comm k i]
theorem Own.form (h : Own w base v N L) : ∃ A c, v = .slice A L c ∧ L ≤ c := by
  rcases h.2 with ⟨rfl, rfl⟩ | ⟨g, cap, cur, rfl, _, _, hc, _⟩
  · exact ⟨none, 0, rfl, Nat.le_refl _⟩
  · exact ⟨_, _, rfl, hc⟩
theorem Own.bits {c : Nat} (h : Own w base (.slice A L c) N L) : Bits w A N L := fun hL => by
  rcases h.2 with ⟨hv, h0⟩ | ⟨g, cap, cur, hv, hb, hh, hc, _⟩
  · omega
  · injection hv with hA _ hcap
    subst hA hcap
    have hlt : g < w.heap.size := by
      rcases Nat.lt_or_ge g w.heap.size with hlt | hge
      · exact hlt
      · rw [Array.getElem?_eq_none hge] at hh; cases hh
    refine ⟨g, 0, rfl, hlt, fun i hi => ?_⟩
    rw [Nat.zero_add, World.ownsRow.cellAt h i (by omega), cellsOf_get hi]
theorem Own.below (h : Own w base v N L) (hb : Below w.heap.size w w') : Own w' base v N L := by
  refine ⟨h.1, ?_⟩
  rcases h.2 with ⟨rfl, h0⟩ | ⟨g, cap, cur, rfl, hg, hh, hc⟩
  · exact .inl ⟨rfl, h0⟩
  · have hlt : g < w.heap.size := by
      rcases Nat.lt_or_ge g w.heap.size with hlt | hge
      · exact hlt
      · rw [Array.getElem?_eq_none hge] at hh; cases hh
    exact .inr ⟨g, cap, cur, rfl, hg, (hb.block g hlt).trans hh, hc⟩
theorem Own.base_ {base' : Nat} (h : Own w base v N L) (hb : base' ≤ base) : Own w base' v N L := by
  refine ⟨h.1, ?_⟩
  rcases h.2 with ⟨rfl, h0⟩ | ⟨g, cap, cur, rfl, hg, hh, hc⟩
  · exact .inl ⟨rfl, h0⟩
  · exact .inr ⟨g, cap, cur, rfl, Nat.le_trans hb hg, hh, hc⟩
theorem Own.take {c k : Nat} (h : Own w base (.slice A L c) N L) (hk : k ≤ L) (h0 : 0 < L) : Own w base (.slice A k c) N k := by
  refine ⟨by rw [cellsOf_length, Nat.mul_one], ?_⟩
  rcases h.2 with ⟨_, h1⟩ | ⟨g, cap, cur, hv, hg, hh, hc, hm, hs, ht⟩
  · omega
  · injection hv with hA _ hcap
    subst hA hcap
    refine .inr ⟨g, c, cur, rfl, hg, hh, by omega, hm, hs, ?_⟩
    rw [Nat.mul_one] at ht ⊢
    rw [← cellsOf_take hk, ← ht, List.take_take, Nat.min_eq_left hk]
end
/-- 1 for a bit that is set. -/
def bitN (b : Bool) : Nat := b.toNat
theorem bitN_le (b : Bool) : bitN b ≤ 1 := by cases b <;> simp [bitN]
theorem bitN_tb (x i : Nat) : bitN (x.testBit i) = x / 2 ^ i % 2 := tb_toNat x i
theorem spec_one (b : Bool) (w : World) : Calls Try.prog 22 #[.bool b] w fun e w' => e = .returned (.int .i64 (bitN b : Nat)) ∧ w = w' := by
  cases b
  all_goals
    go_enter Try.func22, Try.ntmps22
    go_wp2
    go_ret
    exact ⟨rfl, rfl⟩
theorem spec_At (A : Option Addr) (c N L i : Nat) (w : World) (hA : Bits w A N L) (hN : N < 2 ^ L) (hL : L ≤ 9223372036854775807) :
    Calls Try.prog 23 #[.slice A L c, .int .i64 (i : Int)] w fun e w' => e = .returned (.bool (N.testBit i)) ∧ w = w' := by
  by_cases hi : i < L
  · obtain ⟨b, o, rfl, hlt, hc⟩ := hA (by omega)
    have hci := hc i hi
    clear hc
    have hd : decide ((i : Nat) < L) = true := by simpa using hi
    go_enter Try.func23, Try.ntmps23
    go_wp2
    go_ret
    exact ⟨rfl, rfl⟩
  · have hb : N.testBit i = false := Nat.testBit_lt_two_pow (Nat.lt_of_lt_of_le hN (Nat.pow_le_pow_right (by omega) (by omega)))
    have HB := hide hb
    clear hb hN
    have hd : decide ((i : Nat) < L) = false := by simpa using hi
    go_enter Try.func23, Try.ntmps23
    go_wp2
    go_ret
    exact ⟨by rw [HB.out]; rfl, rfl⟩
theorem of_bit (X k T : Nat) (hT : T = X / 2 ^ k) : ((T : Int) % 2 == 1) = X.testBit k := by
  rw [tb, ← hT]
  by_cases h : T % 2 = 1
  · have : (T : Int) % 2 = 1 := by omega
    simp [h, this]
  · have : ¬ (T : Int) % 2 = 1 := by omega
    simp [h, this]
theorem cell_new1 (w : World) (u : Value) (t : TypeId) : ∀ j x, [u][j]? = some x → (w.alloc (.cells #[u] t)).cell? ((⟨w.heap.size, 0, none⟩ : Addr).add j) = some x := by
  intro j x hj
  match j, hj with
  | 0, hj => simp at hj; subst hj; simp [Addr.add]
set_option maxRecDepth 100000 in
set_option maxHeartbeats 1000000 in
theorem spec_Of (X L : Nat) (w : World) (hX : X < 18446744073709551616) (hL : L ≤ 1073741824) :
    Calls Try.prog 24 #[.int .u64 (X : Int), .int .i64 (L : Int)] w (RetOwn w X L) := by
  obtain ⟨i0, hi, hz0, hz1, hz2⟩ := info_parts bool_info
  go_enter Try.func24, Try.ntmps24
  go_wp2_with fail
  go_loopw [0, 5, 7] (fun x v i wr => ∃ k T : Nat, k ≤ L ∧ i = .int .i64 (k : Int) ∧ x = .int .u64 (T : Int) ∧ Hid (T = X / 2 ^ k) ∧ Own wr w.heap.size v X k ∧ Below w.heap.size w wr) (fun _ _ i _ => L - (intOf i).toNat)
  case atStart => exact ⟨0, X, by omega, rfl, rfl, by simp [Hid], World.ownsRow_nil _ _ _ _, Below.refl _ _⟩
  case round =>
    obtain ⟨k, T, hk, rfl, rfl, hT, hown, hB⟩ := hrel
    by_cases hlt : k < L
    · have hbit := of_bit X k T hT.out
      have hT2 : Hid (T / 2 = X / 2 ^ (k + 1)) := by
        unfold Hid
        rw [Nat.pow_succ, ← Nat.div_div_eq_div_mul, ← hT.out]
      have hTd : (T : Int) / 2 = ((T / 2 : Nat) : Int) := by omega
      generalize T / 2 = T2 at hTd hT2
      have hTl : T < 18446744073709551616 := by rw [hT.out]; exact Nat.lt_of_le_of_lt (Nat.div_le_self _ _) hX
      have hz := hB.size
      go_wp2_with (at_builtin; refine wpList_append_own _ rfl _ _ 27 rfl w.heap.size 4 i0 (.bool false) 1 1 Try.underlying27 hi hz0 hz1 hz2 rfl (by decide) _ _ _ rfl (hown.alloc _) ⟨wr.heap.size, 0, none⟩ 1 1 [.bool (X.testBit k)] rfl rfl ?c1 ?c2 ?c3 ?c4 ?c5 ?_)
      case c1 => exact cell_new1 _ _ _
      case c2 => intro u hu; simp at hu; subst hu; rfl
      case c3 => unfold maxLen; omega
      case c4 => omega
      case c5 => simp; omega
      · intro v' w1 hown' hgrow _
        have R : Own w1 w.heap.size v' X (k + 1) := by
          unfold Own
          rw [← cellsOf_snoc]
          exact hown'
        have R2 : Below w.heap.size w w1 := (hB.alloc hz _).grown hgrow (by simp; omega) (fun g hg => (World.ownsRow.lt hown g hg).1)
        clear hown' hgrow hown
        go_wp2_with fail
        go_roundw
        case rel => exact ⟨k + 1, T2, by omega, by go_num, rfl, hT2, R, R2⟩
        case measure => simp [intOf]; omega
    · obtain rfl : k = L := by omega
      go_wp2_with fail
      go_ret
      obtain ⟨A, c, rfl, hc⟩ := hown.form
      exact ⟨A, c, rfl, hc, hown, hB⟩
end Go.Proofs.Ytbkkblphaohgkaa
