/- The contract of the reference's Over, on rows of bits: quotient and remainder. -/
import Derived.Test.YtbkkblphaohgkaaSpec3
namespace Go.Proofs.Ytbkkblphaohgkaa
open Go.RowKit
set_option linter.unusedVariables false

/-- Two rows of L bits are returned. -/
def RetTwo (w : World) (N M L : Nat) (e : Ending) (w' : World) : Prop :=
  ∃ A c A' c', e = .returned (.tuple #[.slice A L c, .slice A' L c']) ∧ L ≤ c ∧ Bits w' A N L ∧ Bits w' A' M L ∧ Below w.heap.size w w'
theorem cmp_ge {A B : Nat} (h : B ≤ A) : 0 ≤ cmpN A B := by
  unfold cmpN
  rw [if_neg (by omega)]
  split <;> omega
theorem cmp_lt {A B : Nat} (h : A < B) : cmpN A B < 0 := by
  unfold cmpN
  rw [if_pos h]
  omega
theorem Bits.setCell {w : World} {A : Option Addr} {N L g k : Nat} {u : Value} (h : Bits w A N L) (hne : ∀ b o, A = some ⟨b, o, none⟩ → b ≠ g) : Bits (w.setCell ⟨g, k, none⟩ u) A N L := fun hL => by
  obtain ⟨b, o, rfl, hlt, hc⟩ := h hL
  refine ⟨b, o, rfl, by simpa [World.setCell] using hlt, fun i hi => ?_⟩
  rw [World.cell?_setCell_other _ _ _ _ (fun e => hne b o rfl (by injection e with e1; exact e1.symm))]
  exact hc i hi
theorem Own.at_ {w : World} {base N L c : Nat} {A : Option Addr} (h : Own w base (.slice A L c) N L) (hL : 0 < L) : ∃ g, A = some ⟨g, 0, none⟩ ∧ base ≤ g ∧ g < w.heap.size := by
  rcases h.2 with ⟨_, h0⟩ | ⟨g, cap, cur, hv, hb, hh, _⟩
  · omega
  · injection hv with hA _ _
    refine ⟨g, hA, hb, ?_⟩
    rcases Nat.lt_or_ge g w.heap.size with hlt | hge
    · exact hlt
    · rw [Array.getElem?_eq_none hge] at hh; cases hh
theorem Own.set_ {w : World} {base N L c g k : Nat} (h : Own w base (.slice (some ⟨g, 0, none⟩) L c) N L) (hk : k < L) (h0 : N.testBit k = false) : Own (w.setCell ⟨g, k, none⟩ (.bool true)) base (.slice (some ⟨g, 0, none⟩) L c) (N + 2 ^ k) L := by
  have hs := (World.ownsRow.stored h k (.bool true)).1
  unfold Own
  rw [← cellsOf_set hk h0]
  exact hs
theorem high_bit (Q k : Nat) : (Q * 2 ^ (k + 1)).testBit k = false := by
  rw [tb, Nat.pow_succ, ← Nat.mul_assoc, Nat.mul_right_comm, Nat.mul_div_cancel _ (Nat.two_pow_pos k)]
  simp
theorem half_lt {A j L : Nat} (hj : j ≤ L) (hA : A < 2 ^ L) (D : Nat) : A / 2 ^ j % D < 2 ^ (L - j) := by
  refine Nat.lt_of_le_of_lt (Nat.mod_le _ _) ?_
  rw [Nat.div_lt_iff_lt_mul (Nat.two_pow_pos j), ← Nat.pow_add, Nat.sub_add_cancel hj]
  exact hA
theorem over_sep1 {w : World} {B n c N g : Nat} {A : Option Addr} (h : Own w B (.slice A n c) N n) (hn : 0 < n) (hg : g < B) : ∀ b o, A = some ⟨b, o, none⟩ → b ≠ g := by
  intro b o hA
  obtain ⟨g', hA', hg', _⟩ := h.at_ hn
  rw [hA'] at hA
  injection hA with hA
  injection hA with h1
  omega
theorem over_sep2 {w : World} {A : Option Addr} {N L : Nat} (h : Bits w A N L) (hL : 0 < L) : ∀ b o, A = some ⟨b, o, none⟩ → b ≠ w.heap.size := by
  intro b o hA
  obtain ⟨b', o', hA', hlt, _⟩ := h hL
  rw [hA'] at hA
  injection hA with hA
  injection hA with h1
  omega
theorem over_more' {A D k : Nat} (hD : 0 < D) (h : D ≤ bitN (A.testBit k) + 2 ^ 1 * ((A / 2 ^ (k + 1)) % D)) :
    (A / 2 ^ k) / D = 2 * ((A / 2 ^ (k + 1)) / D) + 1 ∧ (A / 2 ^ k) % D = bitN (A.testBit k) + 2 ^ 1 * ((A / 2 ^ (k + 1)) % D) - D := over_more hD h
theorem over_less' {A D k : Nat} (hD : 0 < D) (h : bitN (A.testBit k) + 2 ^ 1 * ((A / 2 ^ (k + 1)) % D) < D) :
    (A / 2 ^ k) / D = 2 * ((A / 2 ^ (k + 1)) / D) ∧ (A / 2 ^ k) % D = bitN (A.testBit k) + 2 ^ 1 * ((A / 2 ^ (k + 1)) % D) := over_less hD h
end Go.Proofs.Ytbkkblphaohgkaa
