/- From the reading of a slice of words to the number that it is; what the bound of an '..Upto' statement gives. (The first lemmas are turned from the kit's UptoLemmas.) -/
import Derived.Test.YtbkkblphaohgkaaRows
import Derived.Test.YtbkkblphaohgkaaLong1
import Derived.ProofKit
import Derived.OpenShut
namespace Go.Proofs.Ytbkkblphaohgkaa
open Go.RowKit Go.ChangeShapes Go.WideShapes Go.ChangeAt
theorem bulk_one {H : Type} (d : DataW H) : 1 ≤ Rows.uptoBulk d := by
  cases d with
  | lit l => cases l <;> simp [Rows.uptoBulk]
  | nil => simp [Rows.uptoBulk]
  | ptr d => simp [Rows.uptoBulk]
  | slice elems spare => simp [Rows.uptoBulk]
  | agg parts => simp [Rows.uptoBulk]
  | iface t d => simp [Rows.uptoBulk]
  | map entries => simp [Rows.uptoBulk]
  | held h => simp [Rows.uptoBulk]
theorem bulk_length {H : Type} (l : List (DataW H)) : l.length ≤ Rows.uptoBulkAll l := by
  induction l with
  | nil => simp [Rows.uptoBulkAll]
  | cons x r ih => have := bulk_one x; simp only [Rows.uptoBulkAll, List.length_cons]; omega
theorem bulk_slice {H : Type} (elems spare : List (DataW H)) : elems.length + 1 ≤ Rows.uptoBulk (.slice elems spare) := by
  have h1 := bulk_length elems
  simp only [Rows.uptoBulk]
  omega
theorem bulk_part {H : Type} {d : DataW H} {l : List (DataW H)} (h : d ∈ l) : Rows.uptoBulk d ≤ Rows.uptoBulkAll l := by
  induction l with
  | nil => cases h
  | cons x r ih =>
    simp only [Rows.uptoBulkAll]
    cases List.mem_cons.1 h with
    | inl e => subst e; omega
    | inr e => have := ih e; omega
theorem bulk_words {H : Type} {zs : List Int} {len : Nat} {spare : List (DataW H)} {l : List (DataW H)} (hk : Rows.uptoSmall H l = true) (hl : len ≤ zs.length) (hm : DataW.slice (lits .u64 (zs.take len)) spare ∈ l) : len ≤ 1048576 := by
  have h : Rows.uptoBulkAll l ≤ 1048576 := of_decide_eq_true hk
  have h1 := bulk_part hm
  have h2 := bulk_slice (lits (H := H) .u64 (zs.take len)) spare
  have h3 : (lits (H := H) .u64 (zs.take len)).length = len := by simp [lits]; omega
  omega
theorem wds_of_cells {W : World} {x : Addr} {len : Nat} {zs : List Int} (hl : len ≤ zs.length) (hcell : ∀ i, i < zs.length → W.cell? (x.add i) = some (.int .u64 (zs.getD i 0))) (hwz : ∀ n ∈ zs, (Lit.int .u64 n).wf = true) :
    ∃ N, N < MM ^ len ∧ Wds W (some x) N len := by
  have hb : ∀ n ∈ zs, 0 ≤ n ∧ n < 18446744073709551616 := fun n hn => by have := bounds_u64 (hwz n hn); omega
  obtain ⟨N, hN, hd⟩ := some_number ((zs.take len).map Int.toNat) (fun y hy => by
    obtain ⟨n, hn, rfl⟩ := List.mem_map.1 hy
    have := hb n (List.mem_of_mem_take hn)
    rw [MM_eq]
    omega)
  have hlen : ((zs.take len).map Int.toNat).length = len := by simp; omega
  rw [hlen] at hN hd
  refine ⟨N, hN, fun hL => ?_⟩
  have h0 := hcell 0 (by omega)
  obtain ⟨b, o, spot⟩ := x
  have hspot : spot = none := by simpa [Addr.add] using World.cell?_spot h0
  subst hspot
  have hlt : b < W.heap.size := by
    rcases Nat.lt_or_ge b W.heap.size with hlt | hge
    · exact hlt
    · simp [Addr.add, World.cell?, Array.getElem?_eq_none hge] at h0
  refine ⟨b, o, rfl, hlt, fun i hi => ?_⟩
  have hi' : i < zs.length := by omega
  have hc := hcell i hi'
  have e : ((⟨b, o, none⟩ : Addr).add i) = ⟨b, o + i, none⟩ := by
    unfold Addr.add
    split
    · rename_i h; subst h; rfl
    · rfl
  rw [e] at hc
  rw [hc, hd i hi]
  have hz := hb zs[i] (List.getElem_mem hi')
  have e1 : zs.getD i 0 = zs[i] := by simp [hi']
  have e2 : ((zs.take len).map Int.toNat).getD i 0 = (zs[i]).toNat := by
    rw [List.getD_eq_getElem?_getD, List.getElem?_map, List.getElem?_take_of_lt hi, List.getElem?_eq_getElem hi']
    rfl
  rw [e1, e2, Int.toNat_of_nonneg hz.1]
end Go.Proofs.Ytbkkblphaohgkaa
