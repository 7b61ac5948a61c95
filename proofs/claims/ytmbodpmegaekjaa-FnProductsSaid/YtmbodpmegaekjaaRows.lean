/-
  No cell of these rows narrows 'for every input' (looked for: loops, veiled, ifaces, maps, wideKeys, modest, calm, conditions, laid).
  DERIVED. THE GIVEN ROWS OF THIS SEAT. 12 by the template 'for every input the law returns true; each argument reads behind the call as it read before'; 0 by the template 'total and deterministic' (their statements: YtmbodpmegaekjaaTotals.lean).
  GIVEN WITH THE SEED: the statements are not yours to turn. If you find one false, say at which input.
  Laid BY PROGRAM, IN A SANDBOX (cutbox-rows.mjs): the forced cells as the released guide's own fill.sh prints them over the translation 428e16729a146d9f… (all of the seat's roots in one cut). By AI agents, Wed Nov 11 2026. No macro, syntax, notation, axiom, sorry.
-/
import Derived.Test.YtmbodpmegaekjaaChecked
import GoSem.Claim
import GoSem.ClaimJoined
import GoSem.ClaimMapViews
import Derived.JoinedTies
import Derived.KernelRfl
namespace Go.Proofs.Ytmbodpmegaekjaa
/- THE CELL 'sum', in the pinned program and in every row, IS THE sha256 OF THE DUMP (.gsa) THAT YtmbodpmegaekjaaProg.lean LOADS. Nothing in Lean hashes anything: it is a label: what it is worth is what the hold of that sum in a sandbox is worth. -/
noncomputable def Try.pinned : Pinned := { name := "ytmbodpmegaekjaa", sum := "428e16729a146d9faf5b29bb62b76b2392a255bda2c3bf34776dd6ea1df682e2", checked := Try.checked }
namespace Rows
def none {H : Type} : Left H := { results := [], args := [] }

/-- 'laws.FnDivided64': WHATEVER THE INPUT: true; the input reads as it did. -/
def fnDivided64Spec : ChangeSpec := { name := "fnDivided64", fn := fun _ => fun
  | [d1, d2, d3] => { results := [.lit (.bool true)], args := [d1, d2, d3] }
  | _ => none }
def fnDivided64Row : OpenClaim := { program := "ytmbodpmegaekjaa", sum := "428e16729a146d9faf5b29bb62b76b2392a255bda2c3bf34776dd6ea1df682e2", func := "lib-bitlathe/laws.FnDivided64", spec := "fnDivided64", inPlace := ["math/bits.Add64"], unfollowed := true, recurses := true, named := ["math/bits.divideError", "math/bits.overflowError"], apart := false }
def FnDivided64Said : Prop := fnDivided64Row.holds Try.pinned (OpenSpec.ofChange fnDivided64Spec)

/-- ITS FALSE NEIGHBOUR: 'it returns false'. Refute it at one input. -/
def fnDivided64Wrong : ChangeSpec := { name := "fnDivided64", fn := fun _ => fun
  | [d1, d2, d3] => { results := [.lit (.bool false)], args := [d1, d2, d3] }
  | _ => none }
def FnDivided64WrongFalsely : Prop := fnDivided64Row.holds Try.pinned (OpenSpec.ofChange fnDivided64Wrong)

/-- 'laws.FnQuotientOfProduct': WHATEVER THE INPUT: true; the input reads as it did. -/
def fnQuotientOfProductSpec : ChangeSpec := { name := "fnQuotientOfProduct", fn := fun _ => fun
  | [d1, d2, d3] => { results := [.lit (.bool true)], args := [d1, d2, d3] }
  | _ => none }
def fnQuotientOfProductRow : OpenClaim := { program := "ytmbodpmegaekjaa", sum := "428e16729a146d9faf5b29bb62b76b2392a255bda2c3bf34776dd6ea1df682e2", func := "lib-bitlathe/laws.FnQuotientOfProduct", spec := "fnQuotientOfProduct", inPlace := ["math/bits.Add64"], unfollowed := true, recurses := true, named := ["math/bits.overflowError", "math/bits.divideError"], apart := false }
def FnQuotientOfProductSaid : Prop := fnQuotientOfProductRow.holds Try.pinned (OpenSpec.ofChange fnQuotientOfProductSpec)

/-- ITS FALSE NEIGHBOUR: 'it returns false'. Refute it at one input. -/
def fnQuotientOfProductWrong : ChangeSpec := { name := "fnQuotientOfProduct", fn := fun _ => fun
  | [d1, d2, d3] => { results := [.lit (.bool false)], args := [d1, d2, d3] }
  | _ => none }
def FnQuotientOfProductWrongFalsely : Prop := fnQuotientOfProductRow.holds Try.pinned (OpenSpec.ofChange fnQuotientOfProductWrong)

/-- 'laws.FnDivided': WHATEVER THE INPUT: true; the input reads as it did. -/
def fnDividedSpec : ChangeSpec := { name := "fnDivided", fn := fun _ => fun
  | [d1, d2, d3] => { results := [.lit (.bool true)], args := [d1, d2, d3] }
  | _ => none }
def fnDividedRow : OpenClaim := { program := "ytmbodpmegaekjaa", sum := "428e16729a146d9faf5b29bb62b76b2392a255bda2c3bf34776dd6ea1df682e2", func := "lib-bitlathe/laws.FnDivided", spec := "fnDivided", inPlace := ["math/bits.Add64"], unfollowed := true, recurses := true, named := ["math/bits.divideError", "math/bits.overflowError"], apart := false }
def FnDividedSaid : Prop := fnDividedRow.holds Try.pinned (OpenSpec.ofChange fnDividedSpec)

/-- ITS FALSE NEIGHBOUR: 'it returns false'. Refute it at one input. -/
def fnDividedWrong : ChangeSpec := { name := "fnDivided", fn := fun _ => fun
  | [d1, d2, d3] => { results := [.lit (.bool false)], args := [d1, d2, d3] }
  | _ => none }
def FnDividedWrongFalsely : Prop := fnDividedRow.holds Try.pinned (OpenSpec.ofChange fnDividedWrong)

/-- 'laws.FnSumUndone64': WHATEVER THE INPUT: true; the input reads as it did. -/
def fnSumUndone64Spec : ChangeSpec := { name := "fnSumUndone64", fn := fun _ => fun
  | [d1, d2, d3] => { results := [.lit (.bool true)], args := [d1, d2, d3] }
  | _ => none }
def fnSumUndone64Row : OpenClaim := { program := "ytmbodpmegaekjaa", sum := "428e16729a146d9faf5b29bb62b76b2392a255bda2c3bf34776dd6ea1df682e2", func := "lib-bitlathe/laws.FnSumUndone64", spec := "fnSumUndone64", inPlace := ["math/bits.Add64", "math/bits.Sub64"], apart := false }
def FnSumUndone64Said : Prop := fnSumUndone64Row.holds Try.pinned (OpenSpec.ofChange fnSumUndone64Spec)

/-- ITS FALSE NEIGHBOUR: 'it returns false'. Refute it at one input. -/
def fnSumUndone64Wrong : ChangeSpec := { name := "fnSumUndone64", fn := fun _ => fun
  | [d1, d2, d3] => { results := [.lit (.bool false)], args := [d1, d2, d3] }
  | _ => none }
def FnSumUndone64WrongFalsely : Prop := fnSumUndone64Row.holds Try.pinned (OpenSpec.ofChange fnSumUndone64Wrong)

/-- 'laws.FnProducts64': WHATEVER THE INPUT: true; the input reads as it did. -/
def fnProducts64Spec : ChangeSpec := { name := "fnProducts64", fn := fun _ => fun
  | [d1, d2, d3, d4] => { results := [.lit (.bool true)], args := [d1, d2, d3, d4] }
  | _ => none }
def fnProducts64Row : OpenClaim := { program := "ytmbodpmegaekjaa", sum := "428e16729a146d9faf5b29bb62b76b2392a255bda2c3bf34776dd6ea1df682e2", func := "lib-bitlathe/laws.FnProducts64", spec := "fnProducts64", inPlace := ["math/bits.Add64"], apart := false }
def FnProducts64Said : Prop := fnProducts64Row.holds Try.pinned (OpenSpec.ofChange fnProducts64Spec)

/-- ITS FALSE NEIGHBOUR: 'it returns false'. Refute it at one input. -/
def fnProducts64Wrong : ChangeSpec := { name := "fnProducts64", fn := fun _ => fun
  | [d1, d2, d3, d4] => { results := [.lit (.bool false)], args := [d1, d2, d3, d4] }
  | _ => none }
def FnProducts64WrongFalsely : Prop := fnProducts64Row.holds Try.pinned (OpenSpec.ofChange fnProducts64Wrong)

/-- 'laws.FnCarries64': WHATEVER THE INPUT: true; the input reads as it did. -/
def fnCarries64Spec : ChangeSpec := { name := "fnCarries64", fn := fun _ => fun
  | [d1, d2, d3] => { results := [.lit (.bool true)], args := [d1, d2, d3] }
  | _ => none }
def fnCarries64Row : OpenClaim := { program := "ytmbodpmegaekjaa", sum := "428e16729a146d9faf5b29bb62b76b2392a255bda2c3bf34776dd6ea1df682e2", func := "lib-bitlathe/laws.FnCarries64", spec := "fnCarries64", inPlace := ["math/bits.Add64", "math/bits.Sub64"], apart := false }
def FnCarries64Said : Prop := fnCarries64Row.holds Try.pinned (OpenSpec.ofChange fnCarries64Spec)

/-- ITS FALSE NEIGHBOUR: 'it returns false'. Refute it at one input. -/
def fnCarries64Wrong : ChangeSpec := { name := "fnCarries64", fn := fun _ => fun
  | [d1, d2, d3] => { results := [.lit (.bool false)], args := [d1, d2, d3] }
  | _ => none }
def FnCarries64WrongFalsely : Prop := fnCarries64Row.holds Try.pinned (OpenSpec.ofChange fnCarries64Wrong)

/-- 'laws.FnSumUndone': WHATEVER THE INPUT: true; the input reads as it did. -/
def fnSumUndoneSpec : ChangeSpec := { name := "fnSumUndone", fn := fun _ => fun
  | [d1, d2, d3] => { results := [.lit (.bool true)], args := [d1, d2, d3] }
  | _ => none }
def fnSumUndoneRow : OpenClaim := { program := "ytmbodpmegaekjaa", sum := "428e16729a146d9faf5b29bb62b76b2392a255bda2c3bf34776dd6ea1df682e2", func := "lib-bitlathe/laws.FnSumUndone", spec := "fnSumUndone", inPlace := ["math/bits.Add64", "math/bits.Sub64"], apart := false }
def FnSumUndoneSaid : Prop := fnSumUndoneRow.holds Try.pinned (OpenSpec.ofChange fnSumUndoneSpec)

/-- ITS FALSE NEIGHBOUR: 'it returns false'. Refute it at one input. -/
def fnSumUndoneWrong : ChangeSpec := { name := "fnSumUndone", fn := fun _ => fun
  | [d1, d2, d3] => { results := [.lit (.bool false)], args := [d1, d2, d3] }
  | _ => none }
def FnSumUndoneWrongFalsely : Prop := fnSumUndoneRow.holds Try.pinned (OpenSpec.ofChange fnSumUndoneWrong)

/-- 'laws.FnProducts': WHATEVER THE INPUT: true; the input reads as it did. -/
def fnProductsSpec : ChangeSpec := { name := "fnProducts", fn := fun _ => fun
  | [d1, d2, d3, d4] => { results := [.lit (.bool true)], args := [d1, d2, d3, d4] }
  | _ => none }
def fnProductsRow : OpenClaim := { program := "ytmbodpmegaekjaa", sum := "428e16729a146d9faf5b29bb62b76b2392a255bda2c3bf34776dd6ea1df682e2", func := "lib-bitlathe/laws.FnProducts", spec := "fnProducts", inPlace := ["math/bits.Add64"], apart := false }
def FnProductsSaid : Prop := fnProductsRow.holds Try.pinned (OpenSpec.ofChange fnProductsSpec)

/-- ITS FALSE NEIGHBOUR: 'it returns false'. Refute it at one input. -/
def fnProductsWrong : ChangeSpec := { name := "fnProducts", fn := fun _ => fun
  | [d1, d2, d3, d4] => { results := [.lit (.bool false)], args := [d1, d2, d3, d4] }
  | _ => none }
def FnProductsWrongFalsely : Prop := fnProductsRow.holds Try.pinned (OpenSpec.ofChange fnProductsWrong)

/-- 'laws.FnQuotientsRise64': WHATEVER THE INPUT: true; the input reads as it did. -/
def fnQuotientsRise64Spec : ChangeSpec := { name := "fnQuotientsRise64", fn := fun _ => fun
  | [d1, d2, d3, d4, d5, d6] => { results := [.lit (.bool true)], args := [d1, d2, d3, d4, d5, d6] }
  | _ => none }
def fnQuotientsRise64Row : OpenClaim := { program := "ytmbodpmegaekjaa", sum := "428e16729a146d9faf5b29bb62b76b2392a255bda2c3bf34776dd6ea1df682e2", func := "lib-bitlathe/laws.FnQuotientsRise64", spec := "fnQuotientsRise64", unfollowed := true, recurses := true, named := ["math/bits.divideError", "math/bits.overflowError"], apart := false }
def FnQuotientsRise64Said : Prop := fnQuotientsRise64Row.holds Try.pinned (OpenSpec.ofChange fnQuotientsRise64Spec)

/-- ITS FALSE NEIGHBOUR: 'it returns false'. Refute it at one input. -/
def fnQuotientsRise64Wrong : ChangeSpec := { name := "fnQuotientsRise64", fn := fun _ => fun
  | [d1, d2, d3, d4, d5, d6] => { results := [.lit (.bool false)], args := [d1, d2, d3, d4, d5, d6] }
  | _ => none }
def FnQuotientsRise64WrongFalsely : Prop := fnQuotientsRise64Row.holds Try.pinned (OpenSpec.ofChange fnQuotientsRise64Wrong)

/-- 'laws.FnCarries': WHATEVER THE INPUT: true; the input reads as it did. -/
def fnCarriesSpec : ChangeSpec := { name := "fnCarries", fn := fun _ => fun
  | [d1, d2, d3] => { results := [.lit (.bool true)], args := [d1, d2, d3] }
  | _ => none }
def fnCarriesRow : OpenClaim := { program := "ytmbodpmegaekjaa", sum := "428e16729a146d9faf5b29bb62b76b2392a255bda2c3bf34776dd6ea1df682e2", func := "lib-bitlathe/laws.FnCarries", spec := "fnCarries", inPlace := ["math/bits.Add64", "math/bits.Sub64"], apart := false }
def FnCarriesSaid : Prop := fnCarriesRow.holds Try.pinned (OpenSpec.ofChange fnCarriesSpec)

/-- ITS FALSE NEIGHBOUR: 'it returns false'. Refute it at one input. -/
def fnCarriesWrong : ChangeSpec := { name := "fnCarries", fn := fun _ => fun
  | [d1, d2, d3] => { results := [.lit (.bool false)], args := [d1, d2, d3] }
  | _ => none }
def FnCarriesWrongFalsely : Prop := fnCarriesRow.holds Try.pinned (OpenSpec.ofChange fnCarriesWrong)

/-- 'laws.FnQuotientsRise': WHATEVER THE INPUT: true; the input reads as it did. -/
def fnQuotientsRiseSpec : ChangeSpec := { name := "fnQuotientsRise", fn := fun _ => fun
  | [d1, d2, d3, d4, d5, d6] => { results := [.lit (.bool true)], args := [d1, d2, d3, d4, d5, d6] }
  | _ => none }
def fnQuotientsRiseRow : OpenClaim := { program := "ytmbodpmegaekjaa", sum := "428e16729a146d9faf5b29bb62b76b2392a255bda2c3bf34776dd6ea1df682e2", func := "lib-bitlathe/laws.FnQuotientsRise", spec := "fnQuotientsRise", unfollowed := true, recurses := true, named := ["math/bits.overflowError", "math/bits.divideError"], apart := false }
def FnQuotientsRiseSaid : Prop := fnQuotientsRiseRow.holds Try.pinned (OpenSpec.ofChange fnQuotientsRiseSpec)

/-- ITS FALSE NEIGHBOUR: 'it returns false'. Refute it at one input. -/
def fnQuotientsRiseWrong : ChangeSpec := { name := "fnQuotientsRise", fn := fun _ => fun
  | [d1, d2, d3, d4, d5, d6] => { results := [.lit (.bool false)], args := [d1, d2, d3, d4, d5, d6] }
  | _ => none }
def FnQuotientsRiseWrongFalsely : Prop := fnQuotientsRiseRow.holds Try.pinned (OpenSpec.ofChange fnQuotientsRiseWrong)

/-- 'laws.FnQuotientOfProduct64': WHATEVER THE INPUT: true; the input reads as it did. -/
def fnQuotientOfProduct64Spec : ChangeSpec := { name := "fnQuotientOfProduct64", fn := fun _ => fun
  | [d1, d2, d3] => { results := [.lit (.bool true)], args := [d1, d2, d3] }
  | _ => none }
def fnQuotientOfProduct64Row : OpenClaim := { program := "ytmbodpmegaekjaa", sum := "428e16729a146d9faf5b29bb62b76b2392a255bda2c3bf34776dd6ea1df682e2", func := "lib-bitlathe/laws.FnQuotientOfProduct64", spec := "fnQuotientOfProduct64", inPlace := ["math/bits.Add64"], unfollowed := true, recurses := true, named := ["math/bits.divideError", "math/bits.overflowError"], apart := false }
def FnQuotientOfProduct64Said : Prop := fnQuotientOfProduct64Row.holds Try.pinned (OpenSpec.ofChange fnQuotientOfProduct64Spec)

/-- ITS FALSE NEIGHBOUR: 'it returns false'. Refute it at one input. -/
def fnQuotientOfProduct64Wrong : ChangeSpec := { name := "fnQuotientOfProduct64", fn := fun _ => fun
  | [d1, d2, d3] => { results := [.lit (.bool false)], args := [d1, d2, d3] }
  | _ => none }
def FnQuotientOfProduct64WrongFalsely : Prop := fnQuotientOfProduct64Row.holds Try.pinned (OpenSpec.ofChange fnQuotientOfProduct64Wrong)

/- THE SECOND FORM. 'bulk': how many values and letters a reading holds, each counted each time it is reached (what is shared counts as often as it is met; a slice's spare places count too). A statement '..UptoSaid' is the law's where the arguments, and the package variables that the reading takes, are together of bulk at most 1048576: NARROWER than '..Said'. Prove '..Said' where nothing that the law and all that it calls make is longer than what came in: it says more and counts as full. Else prove '..UptoSaid'. A law counts once. -/
mutual
def uptoBulk {H : Type} : DataW H → Nat
  | .lit (.string bytes) => bytes.length + 1
  | .lit _ => 1
  | .nil => 1
  | .ptr d => uptoBulk d + 1
  | .slice elems spare => uptoBulkAll elems + uptoBulkAll spare + 1
  | .agg parts => uptoBulkAll parts + 1
  | .iface _ d => uptoBulk d + 1
  | .map entries => uptoBulkEntries entries + 1
  | .held _ => 1
def uptoBulkAll {H : Type} : List (DataW H) → Nat
  | [] => 0
  | d :: r => uptoBulk d + uptoBulkAll r
def uptoBulkEntries {H : Type} : List (Lit × DataW H) → Nat
  | [] => 0
  | x :: r => uptoBulkEntry x + uptoBulkEntries r
def uptoBulkEntry {H : Type} : Lit × DataW H → Nat
  | (.string bytes, d) => bytes.length + uptoBulk d + 1
  | (_, d) => uptoBulk d + 1
 end
def uptoSmall : (H : Type) → List (DataW H) → Bool := fun _ ds => decide (uptoBulkAll ds ≤ 1048576)
def OpenSpec.upto (s : _root_.Go.ChangeSpec) : _root_.Go.OpenSpec := { _root_.Go.OpenSpec.ofChange s with cond := some uptoSmall }

/-- 'laws.FnDivided64', WHERE WHAT IT READS IS OF BULK AT MOST 1048576: true; the input reads as it did. -/
def fnDivided64UptoRow : OpenClaim := { program := "ytmbodpmegaekjaa", sum := "428e16729a146d9faf5b29bb62b76b2392a255bda2c3bf34776dd6ea1df682e2", func := "lib-bitlathe/laws.FnDivided64", spec := "fnDivided64", inPlace := ["math/bits.Add64"], unfollowed := true, recurses := true, named := ["math/bits.divideError", "math/bits.overflowError"], apart := false, narrowed := true }
def FnDivided64UptoSaid : Prop := fnDivided64UptoRow.holds Try.pinned (OpenSpec.upto fnDivided64Spec)

/-- 'laws.FnQuotientOfProduct', WHERE WHAT IT READS IS OF BULK AT MOST 1048576: true; the input reads as it did. -/
def fnQuotientOfProductUptoRow : OpenClaim := { program := "ytmbodpmegaekjaa", sum := "428e16729a146d9faf5b29bb62b76b2392a255bda2c3bf34776dd6ea1df682e2", func := "lib-bitlathe/laws.FnQuotientOfProduct", spec := "fnQuotientOfProduct", inPlace := ["math/bits.Add64"], unfollowed := true, recurses := true, named := ["math/bits.overflowError", "math/bits.divideError"], apart := false, narrowed := true }
def FnQuotientOfProductUptoSaid : Prop := fnQuotientOfProductUptoRow.holds Try.pinned (OpenSpec.upto fnQuotientOfProductSpec)

/-- 'laws.FnDivided', WHERE WHAT IT READS IS OF BULK AT MOST 1048576: true; the input reads as it did. -/
def fnDividedUptoRow : OpenClaim := { program := "ytmbodpmegaekjaa", sum := "428e16729a146d9faf5b29bb62b76b2392a255bda2c3bf34776dd6ea1df682e2", func := "lib-bitlathe/laws.FnDivided", spec := "fnDivided", inPlace := ["math/bits.Add64"], unfollowed := true, recurses := true, named := ["math/bits.divideError", "math/bits.overflowError"], apart := false, narrowed := true }
def FnDividedUptoSaid : Prop := fnDividedUptoRow.holds Try.pinned (OpenSpec.upto fnDividedSpec)

/-- 'laws.FnSumUndone64', WHERE WHAT IT READS IS OF BULK AT MOST 1048576: true; the input reads as it did. -/
def fnSumUndone64UptoRow : OpenClaim := { program := "ytmbodpmegaekjaa", sum := "428e16729a146d9faf5b29bb62b76b2392a255bda2c3bf34776dd6ea1df682e2", func := "lib-bitlathe/laws.FnSumUndone64", spec := "fnSumUndone64", inPlace := ["math/bits.Add64", "math/bits.Sub64"], apart := false, narrowed := true }
def FnSumUndone64UptoSaid : Prop := fnSumUndone64UptoRow.holds Try.pinned (OpenSpec.upto fnSumUndone64Spec)

/-- 'laws.FnProducts64', WHERE WHAT IT READS IS OF BULK AT MOST 1048576: true; the input reads as it did. -/
def fnProducts64UptoRow : OpenClaim := { program := "ytmbodpmegaekjaa", sum := "428e16729a146d9faf5b29bb62b76b2392a255bda2c3bf34776dd6ea1df682e2", func := "lib-bitlathe/laws.FnProducts64", spec := "fnProducts64", inPlace := ["math/bits.Add64"], apart := false, narrowed := true }
def FnProducts64UptoSaid : Prop := fnProducts64UptoRow.holds Try.pinned (OpenSpec.upto fnProducts64Spec)

/-- 'laws.FnCarries64', WHERE WHAT IT READS IS OF BULK AT MOST 1048576: true; the input reads as it did. -/
def fnCarries64UptoRow : OpenClaim := { program := "ytmbodpmegaekjaa", sum := "428e16729a146d9faf5b29bb62b76b2392a255bda2c3bf34776dd6ea1df682e2", func := "lib-bitlathe/laws.FnCarries64", spec := "fnCarries64", inPlace := ["math/bits.Add64", "math/bits.Sub64"], apart := false, narrowed := true }
def FnCarries64UptoSaid : Prop := fnCarries64UptoRow.holds Try.pinned (OpenSpec.upto fnCarries64Spec)

/-- 'laws.FnSumUndone', WHERE WHAT IT READS IS OF BULK AT MOST 1048576: true; the input reads as it did. -/
def fnSumUndoneUptoRow : OpenClaim := { program := "ytmbodpmegaekjaa", sum := "428e16729a146d9faf5b29bb62b76b2392a255bda2c3bf34776dd6ea1df682e2", func := "lib-bitlathe/laws.FnSumUndone", spec := "fnSumUndone", inPlace := ["math/bits.Add64", "math/bits.Sub64"], apart := false, narrowed := true }
def FnSumUndoneUptoSaid : Prop := fnSumUndoneUptoRow.holds Try.pinned (OpenSpec.upto fnSumUndoneSpec)

/-- 'laws.FnProducts', WHERE WHAT IT READS IS OF BULK AT MOST 1048576: true; the input reads as it did. -/
def fnProductsUptoRow : OpenClaim := { program := "ytmbodpmegaekjaa", sum := "428e16729a146d9faf5b29bb62b76b2392a255bda2c3bf34776dd6ea1df682e2", func := "lib-bitlathe/laws.FnProducts", spec := "fnProducts", inPlace := ["math/bits.Add64"], apart := false, narrowed := true }
def FnProductsUptoSaid : Prop := fnProductsUptoRow.holds Try.pinned (OpenSpec.upto fnProductsSpec)

/-- 'laws.FnQuotientsRise64', WHERE WHAT IT READS IS OF BULK AT MOST 1048576: true; the input reads as it did. -/
def fnQuotientsRise64UptoRow : OpenClaim := { program := "ytmbodpmegaekjaa", sum := "428e16729a146d9faf5b29bb62b76b2392a255bda2c3bf34776dd6ea1df682e2", func := "lib-bitlathe/laws.FnQuotientsRise64", spec := "fnQuotientsRise64", unfollowed := true, recurses := true, named := ["math/bits.divideError", "math/bits.overflowError"], apart := false, narrowed := true }
def FnQuotientsRise64UptoSaid : Prop := fnQuotientsRise64UptoRow.holds Try.pinned (OpenSpec.upto fnQuotientsRise64Spec)

/-- 'laws.FnCarries', WHERE WHAT IT READS IS OF BULK AT MOST 1048576: true; the input reads as it did. -/
def fnCarriesUptoRow : OpenClaim := { program := "ytmbodpmegaekjaa", sum := "428e16729a146d9faf5b29bb62b76b2392a255bda2c3bf34776dd6ea1df682e2", func := "lib-bitlathe/laws.FnCarries", spec := "fnCarries", inPlace := ["math/bits.Add64", "math/bits.Sub64"], apart := false, narrowed := true }
def FnCarriesUptoSaid : Prop := fnCarriesUptoRow.holds Try.pinned (OpenSpec.upto fnCarriesSpec)

/-- 'laws.FnQuotientsRise', WHERE WHAT IT READS IS OF BULK AT MOST 1048576: true; the input reads as it did. -/
def fnQuotientsRiseUptoRow : OpenClaim := { program := "ytmbodpmegaekjaa", sum := "428e16729a146d9faf5b29bb62b76b2392a255bda2c3bf34776dd6ea1df682e2", func := "lib-bitlathe/laws.FnQuotientsRise", spec := "fnQuotientsRise", unfollowed := true, recurses := true, named := ["math/bits.overflowError", "math/bits.divideError"], apart := false, narrowed := true }
def FnQuotientsRiseUptoSaid : Prop := fnQuotientsRiseUptoRow.holds Try.pinned (OpenSpec.upto fnQuotientsRiseSpec)

/-- 'laws.FnQuotientOfProduct64', WHERE WHAT IT READS IS OF BULK AT MOST 1048576: true; the input reads as it did. -/
def fnQuotientOfProduct64UptoRow : OpenClaim := { program := "ytmbodpmegaekjaa", sum := "428e16729a146d9faf5b29bb62b76b2392a255bda2c3bf34776dd6ea1df682e2", func := "lib-bitlathe/laws.FnQuotientOfProduct64", spec := "fnQuotientOfProduct64", inPlace := ["math/bits.Add64"], unfollowed := true, recurses := true, named := ["math/bits.divideError", "math/bits.overflowError"], apart := false, narrowed := true }
def FnQuotientOfProduct64UptoSaid : Prop := fnQuotientOfProduct64UptoRow.holds Try.pinned (OpenSpec.upto fnQuotientOfProduct64Spec)

end Rows
end Go.Proofs.Ytmbodpmegaekjaa
