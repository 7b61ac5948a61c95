/- Rows of words in memory; the contracts of the laws' helpers word, longSum and longDifference, and of the reference's Words and Equal. -/
import Derived.Test.YtbkkblphaohgkaaDigits
import Derived.Test.YtbkkblphaohgkaaSpec5
namespace Go.Proofs.Ytbkkblphaohgkaa
open Go.RowKit
set_option linter.unusedVariables false

/-- The slice with the address A holds the lowest L words of N. -/
def Wds (w : World) (A : Option Addr) (N L : Nat) : Prop :=
  0 < L → ∃ b o, A = some ⟨b, o, none⟩ ∧ b < w.heap.size ∧ ∀ i, i < L → w.cell? ⟨b, o + i, none⟩ = some (.int .u64 ((dig N i : Nat) : Int))
/-- The slice value v is the call's own row, and holds the lowest L words of N. -/
def OwnW (w : World) (base : Nat) (v : Value) (N L : Nat) : Prop := w.ownsRow base 23 1 v L (wordsOf N L)
def RetW (w : World) (N L : Nat) (e : Ending) (w' : World) : Prop := ∃ A c, e = .returned (.slice A L c) ∧ L ≤ c ∧ OwnW w' w.heap.size (.slice A L c) N L ∧ Below w.heap.size w w'
theorem u64_info : (Try.prog.info? 23).map (fun i => (i.zero, i.size, i.bytes)) = some (some (.int .u64 0), 1, 8) := by kernel_rfl
section
variable {w w' : World} {base N L : Nat} {A : Option Addr} {v : Value}
theorem Wds.none_ (w : World) (A : Option Addr) (N : Nat) : Wds w A N 0 := fun h => absurd h (by omega)
theorem Wds.below (h : Wds w A N L) (hb : Below w.heap.size w w') : Wds w' A N L := fun hL => by
  obtain ⟨b, o, rfl, hlt, hc⟩ := h hL
  exact ⟨b, o, rfl, Nat.lt_of_lt_of_le hlt hb.size, fun i hi => (hb.cell (p := ⟨b, o + i, none⟩) hlt).trans (hc i hi)⟩
theorem Wds.take {k : Nat} (h : Wds w A N L) (hk : k ≤ L) : Wds w A N k := fun hL => by
  obtain ⟨b, o, rfl, hlt, hc⟩ := h (by omega)
  exact ⟨b, o, rfl, hlt, fun i hi => hc i (by omega)⟩
theorem Wds.congr {M : Nat} (h : Wds w A N L) (he : ∀ i, i < L → dig N i = dig M i) : Wds w A M L := fun hL => by
  obtain ⟨b, o, rfl, hlt, hc⟩ := h hL
  exact ⟨b, o, rfl, hlt, fun i hi => by rw [hc i hi, he i hi]⟩
theorem OwnW.form (h : OwnW w base v N L) : ∃ A c, v = .slice A L c ∧ L ≤ c := by
  rcases h.2 with ⟨rfl, rfl⟩ | ⟨g, cap, cur, rfl, _, _, hc, _⟩
  · exact ⟨none, 0, rfl, Nat.le_refl _⟩
  · exact ⟨_, _, rfl, hc⟩
theorem OwnW.bits {c : Nat} (h : OwnW w base (.slice A L c) N L) : Wds w A N L := fun hL => by
  rcases h.2 with ⟨hv, h0⟩ | ⟨g, cap, cur, hv, hb, hh, hc, _⟩
  · omega
  · injection hv with hA _ hcap
    subst hA hcap
    have hlt : g < w.heap.size := by
      rcases Nat.lt_or_ge g w.heap.size with hlt | hge
      · exact hlt
      · rw [Array.getElem?_eq_none hge] at hh; cases hh
    refine ⟨g, 0, rfl, hlt, fun i hi => ?_⟩
    rw [Nat.zero_add, World.ownsRow.cellAt h i (by omega), wordsOf_get hi]
theorem OwnW.below (h : OwnW w base v N L) (hb : Below w.heap.size w w') : OwnW w' base v N L := by
  refine ⟨h.1, ?_⟩
  rcases h.2 with ⟨rfl, h0⟩ | ⟨g, cap, cur, rfl, hg, hh, hc⟩
  · exact .inl ⟨rfl, h0⟩
  · have hlt : g < w.heap.size := by
      rcases Nat.lt_or_ge g w.heap.size with hlt | hge
      · exact hlt
      · rw [Array.getElem?_eq_none hge] at hh; cases hh
    exact .inr ⟨g, cap, cur, rfl, hg, (hb.block g hlt).trans hh, hc⟩
theorem OwnW.base_ {base' : Nat} (h : OwnW w base v N L) (hb : base' ≤ base) : OwnW w base' v N L := by
  refine ⟨h.1, ?_⟩
  rcases h.2 with ⟨rfl, h0⟩ | ⟨g, cap, cur, rfl, hg, hh, hc⟩
  · exact .inl ⟨rfl, h0⟩
  · exact .inr ⟨g, cap, cur, rfl, Nat.le_trans hb hg, hh, hc⟩
end
theorem laws_word (A : Option Addr) (c N L i : Nat) (w : World) (hA : Wds w A N L) (hN : N < MM ^ L) (hL : L ≤ 9223372036854775807) :
    Calls Try.prog 16 #[.slice A L c, .int .i64 (i : Int)] w fun e w' => e = .returned (.int .u64 ((dig N i : Nat) : Int)) ∧ w = w' := by
  by_cases hi : i < L
  · obtain ⟨b, o, rfl, hlt, hc⟩ := hA (by omega)
    have hci := hc i hi
    clear hc
    have hd : decide ((i : Nat) < L) = true := by simpa using hi
    go_enter Try.func16, Try.ntmps16
    go_wp2
    go_ret
    exact ⟨rfl, rfl⟩
  · have HB := hide (dig_zero hN (Nat.le_of_not_lt hi))
    clear hN
    have hd : decide ((i : Nat) < L) = false := by simpa using hi
    go_enter Try.func16, Try.ntmps16
    go_wp2
    go_ret
    exact ⟨by rw [HB.out]; rfl, rfl⟩
theorem add_nat (x y o : Nat) (hx : x < 18446744073709551616) (hy : y < 18446744073709551616) (ho : o ≤ 1) :
    addS64 x y o = (((x + y + o) % MM : Nat) : Int) ∧ addC64 x y o = (((x + y + o) / MM : Nat) : Int) := by
  unfold addS64 addC64
  rw [MM_eq]
  omega
set_option maxRecDepth 100000 in
set_option maxHeartbeats 4000000 in
theorem longSum_core (AA AB : Option Addr) (ca cb A B C la lb m : Nat) (w : World) (hA : Wds w AA A la) (hB : Wds w AB B lb) (hAl : A < MM ^ la) (hBl : B < MM ^ lb) (hC : C ≤ 1) (hla : la ≤ 17592186043904) (hlb : lb ≤ 17592186043904)
    (hm : (la < lb ∧ m = lb) ∨ (lb ≤ la ∧ m = la)) :
    Calls Try.prog 15 #[.slice AA la ca, .slice AB lb cb, .int .u64 (C : Int)] w (RetW w (A + B + C) (m + 1)) := by
  obtain ⟨i0, hi, hz0, hz1, hz2⟩ := info_parts u64_info
  have hm2 : m ≤ 17592186043904 := by omega
  have htop : Hid (carW A B C m = dig (A + B + C) m) := by
    unfold Hid
    refine carW_top ?_ ?_ hC
    · exact Nat.lt_of_lt_of_le hAl (Nat.pow_le_pow_right (by decide) (by omega))
    · exact Nat.lt_of_lt_of_le hBl (Nat.pow_le_pow_right (by decide) (by omega))
  have HA := hide hA
  have HB := hide hB
  have HAl := hide hAl
  have HBl := hide hBl
  clear hA hB hAl hBl
  rcases hm with ⟨hm1, rfl⟩ | ⟨hm1, rfl⟩
  all_goals
    go_enter Try.func15, Try.ntmps15
    go_wp2_with fail
    clear hm1
    go_loopw [2, 7, 8, 9, 10, 16] (fun o v _ _ _ i wr => ∃ k O : Nat, k ≤ m ∧ i = .int .i64 (k : Int) ∧ o = .int .u64 (O : Int) ∧ O ≤ 1 ∧ Hid (O = carW A B C k) ∧ OwnW wr w.heap.size v (A + B + C) k ∧ Below w.heap.size w wr) (fun _ _ _ _ _ i _ => m - (intOf i).toNat)
    case atStart => exact ⟨0, C, by omega, rfl, rfl, hC, by unfold Hid; rw [carW_zero], World.ownsRow_nil _ _ _ _, Below.refl _ _⟩
    case round =>
      obtain ⟨k, O, hk, rfl, rfl, hO1, hO, hown, hBe⟩ := hrel
      have hz := hBe.size
      by_cases hlt : k < m
      · have xl := dig_lt A k
        have yl := dig_lt B k
        have hdg := carW_dig A B C k
        have hcs := carW_succ A B C k
        rw [← hO.out] at hdg hcs
        have hadd := add_nat (dig A k) (dig B k) O xl yl hO1
        rw [← hdg, ← hcs] at hadd
        have hO2 := carW_le A B C (k + 1) hC
        have hs := hadd.1
        have hc := hadd.2
        clear hadd hdg hcs
        generalize hO2e : carW A B C (k + 1) = O2 at hc hO2
        have HO2 : Hid (O2 = carW A B C (k + 1)) := hO2e.symm
        clear hO2e
        generalize hx : dig A k = x at *
        generalize hy : dig B k = y at *
        have Hx := hide hx
        have Hy := hide hy
        clear hx hy
        generalize hsd : dig (A + B + C) k = sd at hs
        have Hsd := hide hsd
        clear hsd
        have ux : U64 x := by unfold U64; omega
        have uy : U64 y := by unfold U64; omega
        have bO : B1 O := by unfold B1; omega
        have hAr := hide (HA.out.below hBe)
        have hBr := hide (HB.out.below hBe)
        go_wp2_with (first | (go_at_call 16; ((with_reducible refine (laws_word _ _ _ _ k _ (by first | exact hAr.out | exact hBr.out) (by first | exact HAl.out | exact HBl.out) (by omega)).mono ?_); rintro e w1 ⟨rfl, rfl⟩; first | rw [Hx.out] | rw [Hy.out])) | (go_at_call 25; ((with_reducible refine (impl_Add64 _ _ _ ux uy bO _).mono ?_); rintro e w1 ⟨rfl, rfl⟩; rw [hs, hc])) | (at_builtin; refine wpList_append_own _ rfl _ _ 22 rfl w.heap.size 23 i0 (.int .u64 0) 1 8 Try.underlying22 hi hz0 hz1 hz2 rfl (by decide) _ _ _ rfl (hown.alloc _) ⟨wr.heap.size, 0, none⟩ 1 1 [.int .u64 (sd : Int)] rfl rfl ?c1 ?c2 ?c3 ?c4 ?c5 ?_))
        case c1 => exact cell_new1 _ _ _
        case c2 => intro u hu; simp at hu; subst hu; rfl
        case c3 => unfold maxLen; omega
        case c4 => omega
        case c5 => simp; omega
        · intro v' w1 hown' hgrow _
          have R : OwnW w1 w.heap.size v' (A + B + C) (k + 1) := by
            unfold OwnW
            rw [← wordsOf_snoc, Hsd.out]
            exact hown'
          have R2 : Below w.heap.size w w1 := (hBe.alloc hz _).grown hgrow (by simp; omega) (fun g hg => (World.ownsRow.lt hown g hg).1)
          clear hown' hgrow hown
          go_wp2_with fail
          go_roundw
          case rel => exact ⟨k + 1, O2, by omega, by go_num, rfl, hO2, HO2, R, R2⟩
          case measure => simp [intOf]; omega
      · obtain rfl : k = m := by omega
        go_wp2_with (at_builtin; refine wpList_append_own _ rfl _ _ 22 rfl w.heap.size 23 i0 (.int .u64 0) 1 8 Try.underlying22 hi hz0 hz1 hz2 rfl (by decide) _ _ _ rfl (hown.alloc _) ⟨wr.heap.size, 0, none⟩ 1 1 [.int .u64 (O : Int)] rfl rfl ?d1 ?d2 ?d3 ?d4 ?d5 ?_)
        case d1 => exact cell_new1 _ _ _
        case d2 => intro u hu; simp at hu; subst hu; rfl
        case d3 => unfold maxLen; omega
        case d4 => omega
        case d5 => simp; omega
        · intro v' w1 hown' hgrow _
          have R : OwnW w1 w.heap.size v' (A + B + C) (k + 1) := by
            unfold OwnW
            rw [← wordsOf_snoc, ← htop.out, ← hO.out]
            exact hown'
          have R2 : Below w.heap.size w w1 := (hBe.alloc hz _).grown hgrow (by simp; omega) (fun g hg => (World.ownsRow.lt hown g hg).1)
          clear hown' hgrow hown
          obtain ⟨A', c', rfl, hc'⟩ := R.form
          go_wp2_with fail
          go_ret
          exact ⟨A', c', rfl, hc', R, R2⟩
theorem laws_longSum (AA AB : Option Addr) (ca cb A B C la lb : Nat) (w : World) (hA : Wds w AA A la) (hB : Wds w AB B lb) (hAl : A < MM ^ la) (hBl : B < MM ^ lb) (hC : C ≤ 1) (hla : la ≤ 17592186043904) (hlb : lb ≤ 17592186043904) :
    Calls Try.prog 15 #[.slice AA la ca, .slice AB lb cb, .int .u64 (C : Int)] w (RetW w (A + B + C) (max la lb + 1)) := by
  by_cases h : la < lb
  · rw [show max la lb = lb by omega]
    exact longSum_core AA AB ca cb A B C la lb lb w hA hB hAl hBl hC hla hlb (.inl ⟨h, rfl⟩)
  · rw [show max la lb = la by omega]
    exact longSum_core AA AB ca cb A B C la lb la w hA hB hAl hBl hC hla hlb (.inr ⟨by omega, rfl⟩)
end Go.Proofs.Ytbkkblphaohgkaa
