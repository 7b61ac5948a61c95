/- The contracts of the reference's Times and Over, on rows of bits. -/
import Derived.Test.YtbkkblphaohgkaaSpec2
namespace Go.Proofs.Ytbkkblphaohgkaa
open Go.RowKit
set_option linter.unusedVariables false

/-- append(own, bits...): the row of the call's own goes on with the bits of the source, whether or not that is nil. -/
theorem run_append_bits (w : World) (base n X m c Y : Nat) (ty : TypeId) (v : Value) (A : Option Addr) (hown : Own w base v X n) (hX : X < 2 ^ n) (hs : Bits w A Y m)
    (hb : n + m ≤ 4294967296) (hbase : base ≤ w.heap.size) :
    ∃ v' w', (Builtin.append_ #[27, 27] ty #[v, .slice A m c]).run Try.prog w = .ok v' w' ∧ Own w' base v' (X + 2 ^ n * Y) (n + m) ∧ w.grownBy w' v.ownBlock := by
  obtain ⟨i0, hi, hz0, hz1, hz2⟩ := info_parts bool_info
  have go : ∀ ad : Addr, A = some ad → (∀ j u, (cellsOf Y m)[j]? = some u → w.cell? (ad.add j) = some u) → ∃ v' w', (Builtin.append_ #[27, 27] ty #[v, .slice A m c]).run Try.prog w = .ok v' w' ∧ Own w' base v' (X + 2 ^ n * Y) (n + m) ∧ w.grownBy w' v.ownBlock := by
    intro ad hA hc
    subst hA
    obtain ⟨v', w', h1, h2, h3, _⟩ := run_append_own (P := Try.prog) w base 27 ty 4 i0 (.bool false) 1 1 Try.underlying27 hi hz0 hz1 hz2 rfl (by decide) v n _ hown ad m c (cellsOf Y m) (by rw [cellsOf_length, Nat.mul_one]) hc (fun u hu => cellsOf_one hu) (by unfold maxLen; omega) (by omega) hbase
    rw [cellsOf_append hX] at h2
    exact ⟨v', w', h1, h2, h3⟩
  by_cases hm : 0 < m
  · obtain ⟨b, o, hA, hlt, hc⟩ := hs hm
    refine go ⟨b, o, none⟩ hA fun j u hu => ?_
    obtain ⟨hj, rfl⟩ := cellsOf_some hu
    have := hc j hj
    unfold Addr.add
    split
    · rename_i h0; subst h0; simpa using this
    · exact this
  · obtain rfl : m = 0 := by omega
    rcases A with _ | ad
    · have hrun : (Builtin.append_ #[27, 27] ty #[v, .slice none 0 c]).run Try.prog w = .ok v w := by
        rcases hown.2 with ⟨rfl, rfl⟩ | ⟨g, cap, cur, rfl, _, _, hnc, _⟩
        · simp [Builtin.append_, run_underlying Try.underlying27, sizeOf, typeInfo, hi, Builtin.lenOf, Builtin.firstCells]
        · simp [Builtin.append_, run_underlying Try.underlying27, sizeOf, typeInfo, hi, Builtin.lenOf, Builtin.firstCells, hnc, storeCells]
      refine ⟨v, w, hrun, ?_, World.grownBy.refl w _⟩
      have e : cellsOf (X + 2 ^ n * Y) (n + 0) = cellsOf X n := by rw [← cellsOf_append hX, cellsOf_zero, List.append_nil]
      unfold Own
      rw [e]
      exact hown
    · exact go ad rfl fun j u hu => absurd (cellsOf_some hu).1 (by omega)
theorem wpList_append_bits (w : World) {ops : Array Oper} {rest : List Oper} {o : Oper} {a : Act} {Q : Exit → Act → World → Prop} (hgd : o.guard = none) (s x : Operand)
    (ho : o.op = .call { callee := .builtin .append, args := #[s, x], argTypes := #[27, 27] })
    (base n X m c Y : Nat) (v : Value) (A : Option Addr) (hs : a.eval s = v) (hx : a.eval x = .slice A m c) (hown : Own w base v X n) (hX : X < 2 ^ n) (hsrc : Bits w A Y m) (hb : n + m ≤ 4294967296) (hbase : base ≤ w.heap.size)
    (h : ∀ (A' : Option Addr) (c' : Nat) (w' : World), n + m ≤ c' → Own w' base (.slice A' (n + m) c') (X + 2 ^ n * Y) (n + m) → w.grownBy w' v.ownBlock → wpList Try.prog ops Q rest (a.put o.dst (.slice A' (n + m) c')) w') : wpList Try.prog ops Q (o :: rest) a w := by
  refine wpList_plain hgd fun K hK => ?_
  obtain ⟨v', w', hrun, h2, h3⟩ := run_append_bits w base n X m c Y o.type v A hown hX hsrc hb hbase
  obtain ⟨A', c', rfl, hc'⟩ := h2.form
  unfold Oper.wp execOp
  simp only [ho, resolve, invoke, builtin, Sem.run_bind, Sem.run_pure, Result.andThen_ok, List.map_toArray, List.map_cons, List.map_nil, hs, hx, hrun]
  exact hK _ _ (h A' c' w' hc' h2 h3)
theorem made_bits (n : Nat) : (madeCells (Value.cells (.bool false)) (n * 1)).toList = cellsOf 0 n := by
  rw [Nat.mul_one, cellsOf_none]
  exact toList_madeCells_one _ _
theorem Own.one_ (w : World) (base : Nat) (b : Bool) (hb : base ≤ w.heap.size) : Own (w.alloc (.cells #[.bool b] 4)) base (.slice (some ⟨w.heap.size, 0, none⟩) 1 1) (bitN b) 1 := by
  refine ⟨by rw [cellsOf_length], .inr ⟨w.heap.size, 1, #[.bool b], rfl, hb, heap_alloc_new w _, by omega, by unfold maxLen; omega, rfl, ?_⟩⟩
  cases b <;> rfl
theorem made_own {w : World} {base n : Nat} {v : Value} (h : w.ownsRow base 4 1 v n (madeCells (Value.cells (.bool false)) (n * 1)).toList) : Own w base v 0 n := by
  unfold Own
  rw [← made_bits]
  exact h
theorem times_plus (AA AB : Option Addr) (ca cb A B la lb k : Nat) (W : World) (hA : Bits W AA (A * (B % 2 ^ k)) (la + lb)) (hB : Bits W AB (0 + 2 ^ k * A) (k + la)) (hAl : A < 2 ^ la) (hBl : B < 2 ^ lb) (hla : la ≤ 536870912) (hlb : lb ≤ 536870912) (hk : k < lb) (ht : Hid (A * (B % 2 ^ (k + 1)) = A * (B % 2 ^ k) + 2 ^ k * A)) :
    Calls Try.prog 11 #[.slice AA (la + lb) ca, .slice AB (k + la) cb, .bool false] W (RetOwn W (A * (B % 2 ^ (k + 1))) (la + lb + 1)) := by
  have h1 : A * (B % 2 ^ k) < 2 ^ (la + lb) := times_lt hAl (Nat.lt_of_le_of_lt (Nat.mod_le _ _) hBl)
  have h2 : 0 + 2 ^ k * A < 2 ^ (k + la) := by
    rw [Nat.zero_add, Nat.pow_add]
    exact Nat.mul_lt_mul_of_pos_left hAl (Nat.two_pow_pos k)
  have h := spec_Plus AA AB ca cb _ _ (la + lb) (k + la) false W hA hB h1 h2 (by omega) (by omega)
  rw [show max (la + lb) (k + la) = la + lb by omega] at h
  have e : A * (B % 2 ^ k) + (0 + 2 ^ k * A) + bitN false = A * (B % 2 ^ (k + 1)) := by rw [ht.out, Nat.zero_add]; rfl
  rw [e] at h
  exact h
set_option maxRecDepth 100000 in
set_option maxHeartbeats 4000000 in
theorem spec_Times (AA AB : Option Addr) (ca cb A B la lb : Nat) (w : World) (hA : Bits w AA A la) (hB : Bits w AB B lb) (hAl : A < 2 ^ la) (hBl : B < 2 ^ lb) (hla : la ≤ 536870912) (hlb : lb ≤ 536870912) :
    Calls Try.prog 18 #[.slice AA la ca, .slice AB lb cb] w (RetOwn w (A * B) (la + lb)) := by
  obtain ⟨i0, hi, hz0, hz1, hz2⟩ := info_parts bool_info
  have HA := hide hA
  have HB := hide hB
  have HAl := hide hAl
  have HBl := hide hBl
  clear hA hB hAl hBl
  go_enter Try.func18, Try.ntmps18
  go_wp2_with (at_make; refine wpList_make_full _ rfl _ _ 27 rfl w.heap.size 4 i0 (.bool false) 1 Try.underlying27 hi hz0 hz1 _ _ _ _ (la + lb) rfl rfl (by omega) (by omega) (by rw [hz2]; omega) (by unfold maxLen; omega) (Nat.le_refl _) ?_; intro w1 hown1 hgrow1)
  have R0 : Own w1 w.heap.size (.slice (some ⟨w.heap.size, 0, none⟩) (la + lb) (la + lb)) 0 (la + lb) := by
    unfold Own
    rw [← made_bits]
    exact hown1
  have B0 : Below w.heap.size w w1 := (Below.refl _ _).grown hgrow1 (Nat.le_refl _) (by simp)
  clear hown1 hgrow1
  go_loopw [5, 6, 7, 8, 17] (fun v _ _ _ i wr => ∃ (k : Nat) (A' : Option Addr) (c' : Nat), k ≤ lb ∧ i = .int .i64 (k : Int) ∧ v = .slice A' (la + lb) c' ∧ la + lb ≤ c' ∧ Own wr w.heap.size (.slice A' (la + lb) c') (A * (B % 2 ^ k)) (la + lb) ∧ Below w.heap.size w wr) (fun _ _ _ _ i _ => lb - (intOf i).toNat)
  case atStart => exact ⟨0, _, _, by omega, rfl, rfl, Nat.le_refl _, by simpa [Nat.mod_one] using R0, B0⟩
  case round =>
    obtain ⟨k, A', c', hk, rfl, rfl, hc', hown, hBe⟩ := hrel
    clear R0 B0
    by_cases hlt : k < lb
    · obtain ⟨b, o, rfl, hlt', hc⟩ := (HB.out.below hBe) (by omega)
      have hci := hc k hlt
      clear hc
      have hst := times_step A B k
      rcases Bool.eq_false_or_eq_true (B.testBit k) with hb | hb
      · rw [hb] at hci hst
        have hst' : A * (B % 2 ^ (k + 1)) = A * (B % 2 ^ k) + 2 ^ k * A := by simpa using hst
        have HST := hide hst'
        clear hst hst' hb
        have hz := hBe.size
        go_wp2_with (first | (at_make; refine wpList_make_full _ rfl _ _ 27 rfl wr.heap.size 4 i0 (.bool false) 1 Try.underlying27 hi hz0 hz1 _ _ _ _ k rfl rfl rfl rfl (by rw [hz2]; omega) (by unfold maxLen; omega) (Nat.le_refl _) ?_; intro w2 hown2 hgrow2; have hb2 : Below wr.heap.size wr w2 := (Below.refl _ _).grown hgrow2 (Nat.le_refl _) (by simp); have R2 := made_own hown2; clear hown2 hgrow2) | (at_builtin; refine wpList_append_bits _ rfl _ _ rfl wr.heap.size k 0 la ca A _ AA rfl rfl R2 (Nat.two_pow_pos k) ((HA.out.below hBe).below hb2) (by omega) hb2.size ?_; intro A3 c3 w3 hc3 R3 hgrow3; have hb3 : Below wr.heap.size wr w3 := hb2.grown hgrow3 hb2.size (fun g hg => (World.ownsRow.lt R2 g hg).1); clear R2 hgrow3) | (go_at_call 11; ((with_reducible refine (times_plus A' A3 c' c3 A B la lb k w3 (hown.bits.below hb3) R3.bits HAl.out HBl.out hla hlb hlt HST).mono ?_); rintro e w4 ⟨A4, c4, rfl, hc4, R4, hb4⟩)))
        go_roundw
        case rel =>
          have hb5 : Below wr.heap.size wr w4 := hb3.trans (hb4.mono hb3.size)
          exact ⟨k + 1, A4, c4, by omega, by go_num, rfl, by omega, (R4.base_ (Nat.le_trans hz hb3.size)).take (by omega) (by omega), bt hBe hb5⟩
        case measure => simp [intOf]; omega
      · rw [hb] at hci hst
        have hst' : A * (B % 2 ^ (k + 1)) = A * (B % 2 ^ k) := by simpa using hst
        have HST := hide hst'
        clear hst hst' hb
        go_wp2_with fail
        go_roundw
        case rel => exact ⟨k + 1, A', c', by omega, by go_num, rfl, hc', by rw [HST.out]; exact hown, hBe⟩
        case measure => simp [intOf]; omega
    · obtain rfl : k = lb := by omega
      go_wp2_with fail
      go_ret
      refine ⟨A', c', rfl, hc', ?_, hBe⟩
      rw [Nat.mod_eq_of_lt HBl.out] at hown
      exact hown
end Go.Proofs.Ytbkkblphaohgkaa
