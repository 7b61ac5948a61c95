/-
  No cell of these rows narrows 'for every input' (looked for: loops, veiled, ifaces, maps, wideKeys, modest, calm, conditions, laid).
  DERIVED. THE GIVEN ROWS OF THIS SEAT. 6 by the template 'for every input the law returns true; each argument reads behind the call as it read before'; 0 by the template 'total and deterministic' (their statements: YtbkkblphaohgkaaTotals.lean).
  GIVEN WITH THE SEED: the statements are not yours to turn. If you find one false, say at which input.
  Laid BY PROGRAM, IN A SANDBOX (cutbox-rows.mjs): the forced cells as the released guide's own fill.sh prints them over the translation 682e7c68778ab030… (all of the seat's roots in one cut). By AI agents, Wed Nov 11 2026. No macro, syntax, notation, axiom, sorry.
-/
import Derived.Test.YtbkkblphaohgkaaChecked
import GoSem.Claim
import GoSem.ClaimJoined
import GoSem.ClaimMapViews
import Derived.JoinedTies
import Derived.KernelRfl
namespace Go.Proofs.Ytbkkblphaohgkaa
/- THE CELL 'sum', in the pinned program and in every row, IS THE sha256 OF THE DUMP (.gsa) THAT YtbkkblphaohgkaaProg.lean LOADS. Nothing in Lean hashes anything: it is a label: what it is worth is what the hold of that sum in a sandbox is worth. -/
noncomputable def Try.pinned : Pinned := { name := "ytbkkblphaohgkaa", sum := "682e7c68778ab03023610a19ca572a5df4637a287a132d61130324e841b35495", checked := Try.checked }
namespace Rows
def none {H : Type} : Left H := { results := [], args := [] }

/-- 'laws.FnLongDifference': WHATEVER THE INPUT: true; the input reads as it did. -/
def fnLongDifferenceSpec : ChangeSpec := { name := "fnLongDifference", fn := fun _ => fun
  | [d1, d2, d3] => { results := [.lit (.bool true)], args := [d1, d2, d3] }
  | _ => none }
def fnLongDifferenceRow : OpenClaim := { program := "ytbkkblphaohgkaa", sum := "682e7c68778ab03023610a19ca572a5df4637a287a132d61130324e841b35495", func := "lib-bitlathe/laws.FnLongDifference", spec := "fnLongDifference", inPlace := ["math/bits.Sub64"], apart := false }
def FnLongDifferenceSaid : Prop := fnLongDifferenceRow.holds Try.pinned (OpenSpec.ofChange fnLongDifferenceSpec)

/-- ITS FALSE NEIGHBOUR: 'it returns false'. Refute it at one input. -/
def fnLongDifferenceWrong : ChangeSpec := { name := "fnLongDifference", fn := fun _ => fun
  | [d1, d2, d3] => { results := [.lit (.bool false)], args := [d1, d2, d3] }
  | _ => none }
def FnLongDifferenceWrongFalsely : Prop := fnLongDifferenceRow.holds Try.pinned (OpenSpec.ofChange fnLongDifferenceWrong)

/-- 'laws.FnLongSum': WHATEVER THE INPUT: true; the input reads as it did. -/
def fnLongSumSpec : ChangeSpec := { name := "fnLongSum", fn := fun _ => fun
  | [d1, d2, d3] => { results := [.lit (.bool true)], args := [d1, d2, d3] }
  | _ => none }
def fnLongSumRow : OpenClaim := { program := "ytbkkblphaohgkaa", sum := "682e7c68778ab03023610a19ca572a5df4637a287a132d61130324e841b35495", func := "lib-bitlathe/laws.FnLongSum", spec := "fnLongSum", inPlace := ["math/bits.Add64"], apart := false }
def FnLongSumSaid : Prop := fnLongSumRow.holds Try.pinned (OpenSpec.ofChange fnLongSumSpec)

/-- ITS FALSE NEIGHBOUR: 'it returns false'. Refute it at one input. -/
def fnLongSumWrong : ChangeSpec := { name := "fnLongSum", fn := fun _ => fun
  | [d1, d2, d3] => { results := [.lit (.bool false)], args := [d1, d2, d3] }
  | _ => none }
def FnLongSumWrongFalsely : Prop := fnLongSumRow.holds Try.pinned (OpenSpec.ofChange fnLongSumWrong)

/-- 'laws.FnLongSumUndone': WHATEVER THE INPUT: true; the input reads as it did. -/
def fnLongSumUndoneSpec : ChangeSpec := { name := "fnLongSumUndone", fn := fun _ => fun
  | [d1, d2, d3] => { results := [.lit (.bool true)], args := [d1, d2, d3] }
  | _ => none }
def fnLongSumUndoneRow : OpenClaim := { program := "ytbkkblphaohgkaa", sum := "682e7c68778ab03023610a19ca572a5df4637a287a132d61130324e841b35495", func := "lib-bitlathe/laws.FnLongSumUndone", spec := "fnLongSumUndone", inPlace := ["math/bits.Add64", "math/bits.Sub64"], apart := false }
def FnLongSumUndoneSaid : Prop := fnLongSumUndoneRow.holds Try.pinned (OpenSpec.ofChange fnLongSumUndoneSpec)

/-- ITS FALSE NEIGHBOUR: 'it returns false'. Refute it at one input. -/
def fnLongSumUndoneWrong : ChangeSpec := { name := "fnLongSumUndone", fn := fun _ => fun
  | [d1, d2, d3] => { results := [.lit (.bool false)], args := [d1, d2, d3] }
  | _ => none }
def FnLongSumUndoneWrongFalsely : Prop := fnLongSumUndoneRow.holds Try.pinned (OpenSpec.ofChange fnLongSumUndoneWrong)

/-- 'laws.FnLongProduct': WHATEVER THE INPUT: true; the input reads as it did. -/
def fnLongProductSpec : ChangeSpec := { name := "fnLongProduct", fn := fun _ => fun
  | [d1, d2] => { results := [.lit (.bool true)], args := [d1, d2] }
  | _ => none }
def fnLongProductRow : OpenClaim := { program := "ytbkkblphaohgkaa", sum := "682e7c68778ab03023610a19ca572a5df4637a287a132d61130324e841b35495", func := "lib-bitlathe/laws.FnLongProduct", spec := "fnLongProduct", inPlace := ["math/bits.Add64"], apart := false }
def FnLongProductSaid : Prop := fnLongProductRow.holds Try.pinned (OpenSpec.ofChange fnLongProductSpec)

/-- ITS FALSE NEIGHBOUR: 'it returns false'. Refute it at one input. -/
def fnLongProductWrong : ChangeSpec := { name := "fnLongProduct", fn := fun _ => fun
  | [d1, d2] => { results := [.lit (.bool false)], args := [d1, d2] }
  | _ => none }
def FnLongProductWrongFalsely : Prop := fnLongProductRow.holds Try.pinned (OpenSpec.ofChange fnLongProductWrong)

/-- 'laws.FnSquares': WHATEVER THE INPUT: true; the input reads as it did. -/
def fnSquaresSpec : ChangeSpec := { name := "fnSquares", fn := fun _ => fun
  | [d1, d2] => { results := [.lit (.bool true)], args := [d1, d2] }
  | _ => none }
def fnSquaresRow : OpenClaim := { program := "ytbkkblphaohgkaa", sum := "682e7c68778ab03023610a19ca572a5df4637a287a132d61130324e841b35495", func := "lib-bitlathe/laws.FnSquares", spec := "fnSquares", inPlace := ["math/bits.Add64"], apart := false }
def FnSquaresSaid : Prop := fnSquaresRow.holds Try.pinned (OpenSpec.ofChange fnSquaresSpec)

/-- ITS FALSE NEIGHBOUR: 'it returns false'. Refute it at one input. -/
def fnSquaresWrong : ChangeSpec := { name := "fnSquares", fn := fun _ => fun
  | [d1, d2] => { results := [.lit (.bool false)], args := [d1, d2] }
  | _ => none }
def FnSquaresWrongFalsely : Prop := fnSquaresRow.holds Try.pinned (OpenSpec.ofChange fnSquaresWrong)

/-- 'laws.FnLongProductDivided': WHATEVER THE INPUT: true; the input reads as it did. -/
def fnLongProductDividedSpec : ChangeSpec := { name := "fnLongProductDivided", fn := fun _ => fun
  | [d1, d2] => { results := [.lit (.bool true)], args := [d1, d2] }
  | _ => none }
def fnLongProductDividedRow : OpenClaim := { program := "ytbkkblphaohgkaa", sum := "682e7c68778ab03023610a19ca572a5df4637a287a132d61130324e841b35495", func := "lib-bitlathe/laws.FnLongProductDivided", spec := "fnLongProductDivided", inPlace := ["math/bits.Add64"], unfollowed := true, recurses := true, named := ["math/bits.divideError", "math/bits.overflowError"], apart := false }
def FnLongProductDividedSaid : Prop := fnLongProductDividedRow.holds Try.pinned (OpenSpec.ofChange fnLongProductDividedSpec)

/-- ITS FALSE NEIGHBOUR: 'it returns false'. Refute it at one input. -/
def fnLongProductDividedWrong : ChangeSpec := { name := "fnLongProductDivided", fn := fun _ => fun
  | [d1, d2] => { results := [.lit (.bool false)], args := [d1, d2] }
  | _ => none }
def FnLongProductDividedWrongFalsely : Prop := fnLongProductDividedRow.holds Try.pinned (OpenSpec.ofChange fnLongProductDividedWrong)

/- THE SECOND FORM. 'bulk': how many values and letters a reading holds, each counted each time it is reached (what is shared counts as often as it is met; a slice's spare places count too). A statement '..UptoSaid' is the law's where the arguments, and the package variables that the reading takes, are together of bulk at most 1048576: NARROWER than '..Said'. Prove '..Said' where nothing that the law and all that it calls make is longer than what came in: it says more and counts as full. Else prove '..UptoSaid'. A law counts once. -/
mutual
def uptoBulk {H : Type} : DataW H → Nat
  | .lit (.string bytes) => bytes.length + 1
  | .lit _ => 1
  | .nil => 1
  | .ptr d => uptoBulk d + 1
  | .slice elems spare => uptoBulkAll elems + uptoBulkAll spare + 1
  | .agg parts => uptoBulkAll parts + 1
  | .iface _ d => uptoBulk d + 1
  | .map entries => uptoBulkEntries entries + 1
  | .held _ => 1
def uptoBulkAll {H : Type} : List (DataW H) → Nat
  | [] => 0
  | d :: r => uptoBulk d + uptoBulkAll r
def uptoBulkEntries {H : Type} : List (Lit × DataW H) → Nat
  | [] => 0
  | x :: r => uptoBulkEntry x + uptoBulkEntries r
def uptoBulkEntry {H : Type} : Lit × DataW H → Nat
  | (.string bytes, d) => bytes.length + uptoBulk d + 1
  | (_, d) => uptoBulk d + 1
 end
def uptoSmall : (H : Type) → List (DataW H) → Bool := fun _ ds => decide (uptoBulkAll ds ≤ 1048576)
def OpenSpec.upto (s : _root_.Go.ChangeSpec) : _root_.Go.OpenSpec := { _root_.Go.OpenSpec.ofChange s with cond := some uptoSmall }

/-- 'laws.FnLongDifference', WHERE WHAT IT READS IS OF BULK AT MOST 1048576: true; the input reads as it did. -/
def fnLongDifferenceUptoRow : OpenClaim := { program := "ytbkkblphaohgkaa", sum := "682e7c68778ab03023610a19ca572a5df4637a287a132d61130324e841b35495", func := "lib-bitlathe/laws.FnLongDifference", spec := "fnLongDifference", inPlace := ["math/bits.Sub64"], apart := false, narrowed := true }
def FnLongDifferenceUptoSaid : Prop := fnLongDifferenceUptoRow.holds Try.pinned (OpenSpec.upto fnLongDifferenceSpec)

/-- 'laws.FnLongSum', WHERE WHAT IT READS IS OF BULK AT MOST 1048576: true; the input reads as it did. -/
def fnLongSumUptoRow : OpenClaim := { program := "ytbkkblphaohgkaa", sum := "682e7c68778ab03023610a19ca572a5df4637a287a132d61130324e841b35495", func := "lib-bitlathe/laws.FnLongSum", spec := "fnLongSum", inPlace := ["math/bits.Add64"], apart := false, narrowed := true }
def FnLongSumUptoSaid : Prop := fnLongSumUptoRow.holds Try.pinned (OpenSpec.upto fnLongSumSpec)

/-- 'laws.FnLongSumUndone', WHERE WHAT IT READS IS OF BULK AT MOST 1048576: true; the input reads as it did. -/
def fnLongSumUndoneUptoRow : OpenClaim := { program := "ytbkkblphaohgkaa", sum := "682e7c68778ab03023610a19ca572a5df4637a287a132d61130324e841b35495", func := "lib-bitlathe/laws.FnLongSumUndone", spec := "fnLongSumUndone", inPlace := ["math/bits.Add64", "math/bits.Sub64"], apart := false, narrowed := true }
def FnLongSumUndoneUptoSaid : Prop := fnLongSumUndoneUptoRow.holds Try.pinned (OpenSpec.upto fnLongSumUndoneSpec)

/-- 'laws.FnLongProduct', WHERE WHAT IT READS IS OF BULK AT MOST 1048576: true; the input reads as it did. -/
def fnLongProductUptoRow : OpenClaim := { program := "ytbkkblphaohgkaa", sum := "682e7c68778ab03023610a19ca572a5df4637a287a132d61130324e841b35495", func := "lib-bitlathe/laws.FnLongProduct", spec := "fnLongProduct", inPlace := ["math/bits.Add64"], apart := false, narrowed := true }
def FnLongProductUptoSaid : Prop := fnLongProductUptoRow.holds Try.pinned (OpenSpec.upto fnLongProductSpec)

/-- 'laws.FnSquares', WHERE WHAT IT READS IS OF BULK AT MOST 1048576: true; the input reads as it did. -/
def fnSquaresUptoRow : OpenClaim := { program := "ytbkkblphaohgkaa", sum := "682e7c68778ab03023610a19ca572a5df4637a287a132d61130324e841b35495", func := "lib-bitlathe/laws.FnSquares", spec := "fnSquares", inPlace := ["math/bits.Add64"], apart := false, narrowed := true }
def FnSquaresUptoSaid : Prop := fnSquaresUptoRow.holds Try.pinned (OpenSpec.upto fnSquaresSpec)

/-- 'laws.FnLongProductDivided', WHERE WHAT IT READS IS OF BULK AT MOST 1048576: true; the input reads as it did. -/
def fnLongProductDividedUptoRow : OpenClaim := { program := "ytbkkblphaohgkaa", sum := "682e7c68778ab03023610a19ca572a5df4637a287a132d61130324e841b35495", func := "lib-bitlathe/laws.FnLongProductDivided", spec := "fnLongProductDivided", inPlace := ["math/bits.Add64"], unfollowed := true, recurses := true, named := ["math/bits.divideError", "math/bits.overflowError"], apart := false, narrowed := true }
def FnLongProductDividedUptoSaid : Prop := fnLongProductDividedUptoRow.holds Try.pinned (OpenSpec.upto fnLongProductDividedSpec)

end Rows
end Go.Proofs.Ytbkkblphaohgkaa
