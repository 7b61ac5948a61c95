/- The contract of the reference's Over, on rows of bits: quotient and remainder. -/
import Derived.Test.YtkflkcpbemnmfaaSpec3
namespace Go.Proofs.Ytkflkcpbemnmfaa
open Go.RowKit
set_option linter.unusedVariables false

/-- Two rows of L bits are returned. -/
def RetTwo (w : World) (N M L : Nat) (e : Ending) (w' : World) : Prop :=
  ∃ A c A' c', e = .returned (.tuple #[.slice A L c, .slice A' L c']) ∧ L ≤ c ∧ Bits w' A N L ∧ Bits w' A' M L ∧ Below w.heap.size w w'
theorem cmp_ge {A B : Nat} (h : B ≤ A) : 0 ≤ cmpN A B := by
  unfold cmpN
  rw [if_neg (by omega)]
  split <;> omega
theorem cmp_lt {A B : Nat} (h : A < B) : cmpN A B < 0 := by
  unfold cmpN
  rw [if_pos h]
  omega
theorem Bits.setCell {w : World} {A : Option Addr} {N L g k : Nat} {u : Value} (h : Bits w A N L) (hne : ∀ b o, A = some ⟨b, o, none⟩ → b ≠ g) : Bits (w.setCell ⟨g, k, none⟩ u) A N L := fun hL => by
  obtain ⟨b, o, rfl, hlt, hc⟩ := h hL
  refine ⟨b, o, rfl, by simpa [World.setCell] using hlt, fun i hi => ?_⟩
  rw [World.cell?_setCell_other _ _ _ _ (fun e => hne b o rfl (by injection e with e1; exact e1.symm))]
  exact hc i hi
theorem Own.at_ {w : World} {base N L c : Nat} {A : Option Addr} (h : Own w base (.slice A L c) N L) (hL : 0 < L) : ∃ g, A = some ⟨g, 0, none⟩ ∧ base ≤ g ∧ g < w.heap.size := by
  rcases h.2 with ⟨_, h0⟩ | ⟨g, cap, cur, hv, hb, hh, _⟩
  · omega
  · injection hv with hA _ _
    refine ⟨g, hA, hb, ?_⟩
    rcases Nat.lt_or_ge g w.heap.size with hlt | hge
    · exact hlt
    · rw [Array.getElem?_eq_none hge] at hh; cases hh
theorem Own.set_ {w : World} {base N L c g k : Nat} (h : Own w base (.slice (some ⟨g, 0, none⟩) L c) N L) (hk : k < L) (h0 : N.testBit k = false) : Own (w.setCell ⟨g, k, none⟩ (.bool true)) base (.slice (some ⟨g, 0, none⟩) L c) (N + 2 ^ k) L := by
  have hs := (World.ownsRow.stored h k (.bool true)).1
  unfold Own
  rw [← cellsOf_set hk h0]
  exact hs
theorem high_bit (Q k : Nat) : (Q * 2 ^ (k + 1)).testBit k = false := by
  rw [tb, Nat.pow_succ, ← Nat.mul_assoc, Nat.mul_right_comm, Nat.mul_div_cancel _ (Nat.two_pow_pos k)]
  simp
theorem half_lt {A j L : Nat} (hj : j ≤ L) (hA : A < 2 ^ L) (D : Nat) : A / 2 ^ j % D < 2 ^ (L - j) := by
  refine Nat.lt_of_le_of_lt (Nat.mod_le _ _) ?_
  rw [Nat.div_lt_iff_lt_mul (Nat.two_pow_pos j), ← Nat.pow_add, Nat.sub_add_cancel hj]
  exact hA
theorem over_sep1 {w : World} {B n c N g : Nat} {A : Option Addr} (h : Own w B (.slice A n c) N n) (hn : 0 < n) (hg : g < B) : ∀ b o, A = some ⟨b, o, none⟩ → b ≠ g := by
  intro b o hA
  obtain ⟨g', hA', hg', _⟩ := h.at_ hn
  rw [hA'] at hA
  injection hA with hA
  injection hA with h1
  omega
theorem over_sep2 {w : World} {A : Option Addr} {N L : Nat} (h : Bits w A N L) (hL : 0 < L) : ∀ b o, A = some ⟨b, o, none⟩ → b ≠ w.heap.size := by
  intro b o hA
  obtain ⟨b', o', hA', hlt, _⟩ := h hL
  rw [hA'] at hA
  injection hA with hA
  injection hA with h1
  omega
theorem over_more' {A D k : Nat} (hD : 0 < D) (h : D ≤ bitN (A.testBit k) + 2 ^ 1 * ((A / 2 ^ (k + 1)) % D)) :
    (A / 2 ^ k) / D = 2 * ((A / 2 ^ (k + 1)) / D) + 1 ∧ (A / 2 ^ k) % D = bitN (A.testBit k) + 2 ^ 1 * ((A / 2 ^ (k + 1)) % D) - D := over_more hD h
theorem over_less' {A D k : Nat} (hD : 0 < D) (h : bitN (A.testBit k) + 2 ^ 1 * ((A / 2 ^ (k + 1)) % D) < D) :
    (A / 2 ^ k) / D = 2 * ((A / 2 ^ (k + 1)) / D) ∧ (A / 2 ^ k) % D = bitN (A.testBit k) + 2 ^ 1 * ((A / 2 ^ (k + 1)) % D) := over_less hD h
set_option maxRecDepth 100000 in
set_option maxHeartbeats 4000000 in
theorem spec_Over (AA AB : Option Addr) (ca cb A D la lb : Nat) (w : World) (hA : Bits w AA A la) (hB : Bits w AB D lb) (hAl : A < 2 ^ la) (hBl : D < 2 ^ lb) (hla : la ≤ 536870912) (hlb : lb ≤ 536870912) (hD : 0 < D) :
    Calls Try.prog 33 #[.slice AA la ca, .slice AB lb cb] w (RetTwo w (A / D) (A % D) la) := by
  obtain ⟨i0, hi, hz0, hz1, hz2⟩ := info_parts bool_info
  have HA := hide hA
  have HB := hide hB
  have HAl := hide hAl
  have HBl := hide hBl
  have HD := hide hD
  clear hA hB hAl hBl hD
  go_enter Try.func33, Try.ntmps33
  go_wp2_with (at_make; refine wpList_make_full _ rfl _ _ 53 rfl w.heap.size 4 i0 (.bool false) 1 Try.underlying53 hi hz0 hz1 _ _ _ _ la rfl rfl rfl rfl (by rw [hz2]; omega) (by unfold maxLen; omega) (Nat.le_refl _) ?_; intro w1 hown1 hgrow1)
  have R0 := made_own hown1
  have B0 : Below w.heap.size w w1 := (Below.refl _ _).grown hgrow1 (Nat.le_refl _) (by simp)
  clear hown1 hgrow1
  go_loopw [5, 6] (fun r i wr => ∃ (j : Nat) (Ar : Option Addr) (cr lr : Nat), j ≤ la ∧ lr = la - j ∧ i = .int .i64 ((j : Int) - 1) ∧ r = .slice Ar lr cr ∧
      Own wr w.heap.size (.slice (some ⟨w.heap.size, 0, none⟩) la la) (A / 2 ^ j / D * 2 ^ j) la ∧ Bits wr Ar (A / 2 ^ j % D) lr ∧ Below w.heap.size w wr) (fun _ i _ => (intOf i + 1).toNat)
  case atStart =>
    refine ⟨la, _, _, 0, by omega, by omega, rfl, rfl, ?_, Bits.none_ _ _ _, B0⟩
    rw [Nat.div_eq_of_lt HAl.out, Nat.zero_div, Nat.zero_mul]
    exact R0
  case round =>
    obtain ⟨j, Ar, cr, lr, hj, hlr, rfl, rfl, hq, hr, hBe⟩ := hrel
    clear R0 B0
    rcases Nat.eq_zero_or_pos j with h0 | h0
    · subst h0
      obtain rfl : lr = la := by omega
      go_wp2_with fail
      go_ret2
      refine ⟨_, _, Ar, cr, rfl, Nat.le_refl _, ?_, ?_, hBe⟩
      · simpa using hq.bits
      · simpa using hr
    · obtain ⟨k, rfl⟩ : ∃ k, j = k + 1 := ⟨j - 1, by omega⟩
      have hk : ((k + 1 : Nat) : Int) - 1 = (k : Int) := by omega
      rw [hk]
      clear hk
      obtain ⟨ba, oa, rfl, hlt', hc⟩ := (HA.out.below hBe) (by omega)
      have hci := hc k (by omega)
      clear hc
      obtain ⟨g', hg0, hg1, hg2⟩ := hq.at_ (by omega)
      obtain rfl : w.heap.size = g' := by injection hg0 with hg0; injection hg0
      clear hg0 hg1
      have hkl : k < la := by omega
      have hz := hBe.size
      have hrl := half_lt (j := k + 1) hj HAl.out D
      rw [← hlr] at hrl
      have hmore := over_more' (A := A) (D := D) (k := k) HD.out
      have hless := over_less' (A := A) (D := D) (k := k) HD.out
      have hbl := bitN_le (A.testBit k)
      generalize hR : A / 2 ^ (k + 1) % D = R at *
      generalize hQ : A / 2 ^ (k + 1) / D = Q at *
      have HR := hide hR
      have HQe := hide hQ
      clear hR hQ
      generalize hab : A.testBit k = ab at *
      have Hab := hide hab
      clear hab
      have hmore := hide hmore
      have hless := hide hless
      have HRl : Hid (bitN ab + 2 ^ 1 * R < 2 ^ (1 + lr)) := by
        unfold Hid
        rw [Nat.pow_add]
        omega
      have HQ : Hid (Q * 2 ^ (k + 1) + 2 ^ k = (2 * Q + 1) * 2 ^ k) := by
        unfold Hid
        rw [Nat.pow_succ, Nat.add_mul, Nat.one_mul, Nat.mul_comm (2 ^ k) 2, ← Nat.mul_assoc, Nat.mul_comm _ 2]
      have HQ0 : Hid (Q * 2 ^ (k + 1) = 2 * Q * 2 ^ k) := by
        unfold Hid
        rw [Nat.pow_succ, Nat.mul_comm (2 ^ k) 2, ← Nat.mul_assoc, Nat.mul_comm _ 2]
      have Hlr : Hid (1 + lr = la - k) := by unfold Hid; omega
      have hlrb : lr < la := by omega
      clear hrl hlr
      have h1l : bitN ab < 2 ^ 1 := by omega
      have hsepB := over_sep2 HB.out (by
        rcases Nat.eq_zero_or_pos lb with h | h
        · have h1 := HBl.out; have h2 := HD.out; rw [h] at h1; simp at h1; omega
        · exact h)
      have hO1 := hide (Own.one_ wr wr.heap.size ab (Nat.le_refl _))
      have hb1 : Hid (Below wr.heap.size wr (wr.alloc (.cells #[.bool ab] 4))) := (Below.refl _ _).alloc (Nat.le_refl _) _
      by_cases hcase : D ≤ bitN ab + 2 ^ 1 * R
      · have HM := hide (hmore.out hcase)
        have hcmp : 0 ≤ cmpN (bitN ab + 2 * R) D := cmp_ge hcase
        have Hcase := hide hcase
        clear hmore hless hcase
        go_wp2_with (first | (at_builtin; refine wpList_append_bits _ rfl _ _ rfl wr.heap.size 1 (bitN ab) lr cr R _ Ar rfl rfl hO1.out h1l (hr.below hb1.out) (by omega) hb1.out.size ?_; intro A3 c3 w3 hc3 R3 hgrow3; have hb3 : Below wr.heap.size wr w3 := hb1.out.grown hgrow3 hb1.out.size (fun g hg => (World.ownsRow.lt hO1.out g hg).1); have hcell := World.ownsRow.cellAt (hq.below hb3) k (by omega); rw [cellsOf_get hkl] at hcell; have hfrz := World.ownsRow.frozenAt (hq.below hb3) k; clear hgrow3) | (go_at_call 47; ((with_reducible refine (spec_Compare _ _ _ _ _ _ _ _ _ R3.bits ((HB.out.below hBe).below hb3) HRl.out HBl.out (by omega) (by omega)).mono ?_); rintro e w4 ⟨rfl, rfl⟩)))
        have hm1 := R3.bits.setCell (k := k) (u := .bool true) (over_sep1 R3 (by omega) hg2)
        have hm2 := ((HB.out.below hBe).below hb3).setCell (k := k) (u := .bool true) hsepB
        refine (spec_Minus A3 AB c3 cb _ D (1 + lr) lb _ hm1 hm2 HBl.out (by omega) (by omega) Hcase.out).mono ?_
        rintro e w5 ⟨A5, c5, rfl, hc5, R5, hb5⟩
        go_wp2_with fail
        go_roundw
        case rel =>
          have hq5 := ((hq.below hb3).set_ hkl (high_bit Q k)).below hb5
          have hB4 : Below w.heap.size w (w3.setCell ⟨w.heap.size, k, none⟩ (.bool true)) := (bt hBe hb3).setCell (Nat.le_refl _) _
          rw [HQ.out] at hq5
          refine ⟨k, A5, c5, 1 + lr, by omega, Hlr.out, rfl, rfl, ?_, ?_, bt hB4 hb5⟩
          · rw [HM.out.1]; exact hq5
          · rw [HM.out.2]; exact R5.bits
        case measure => simp [intOf]
      · have hcase' : bitN ab + 2 ^ 1 * R < D := by omega
        have HM := hide (hless.out hcase')
        have hcmp : cmpN (bitN ab + 2 * R) D < 0 := cmp_lt hcase'
        clear hmore hless hcase hcase'
        go_wp2_with (first | (at_builtin; refine wpList_append_bits _ rfl _ _ rfl wr.heap.size 1 (bitN ab) lr cr R _ Ar rfl rfl hO1.out h1l (hr.below hb1.out) (by omega) hb1.out.size ?_; intro A3 c3 w3 hc3 R3 hgrow3; have hb3 : Below wr.heap.size wr w3 := hb1.out.grown hgrow3 hb1.out.size (fun g hg => (World.ownsRow.lt hO1.out g hg).1); have hcell := World.ownsRow.cellAt (hq.below hb3) k (by omega); rw [cellsOf_get hkl] at hcell; have hfrz := World.ownsRow.frozenAt (hq.below hb3) k; clear hgrow3) | (go_at_call 47; ((with_reducible refine (spec_Compare _ _ _ _ _ _ _ _ _ R3.bits ((HB.out.below hBe).below hb3) HRl.out HBl.out (by omega) (by omega)).mono ?_); rintro e w4 ⟨rfl, rfl⟩)))
        go_roundw
        case rel =>
          have hq5 := hq.below hb3
          rw [HQ0.out] at hq5
          refine ⟨k, A3, c3, 1 + lr, by omega, Hlr.out, rfl, rfl, ?_, ?_, bt hBe hb3⟩
          · rw [HM.out.1]; exact hq5
          · rw [HM.out.2]; exact R3.bits
        case measure => simp [intOf]
end Go.Proofs.Ytkflkcpbemnmfaa
