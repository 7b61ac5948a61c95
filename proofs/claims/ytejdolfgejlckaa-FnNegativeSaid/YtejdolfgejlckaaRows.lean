/-
  No cell of these rows narrows 'for every input' (looked for: loops, veiled, ifaces, maps, wideKeys, modest, calm, conditions, laid).
  DERIVED. THE GIVEN ROWS OF THIS SEAT. 11 by the template 'for every input the law returns true; each argument reads behind the call as it read before'; 0 by the template 'total and deterministic' (their statements: YtejdolfgejlckaaTotals.lean).
  GIVEN WITH THE SEED: the statements are not yours to turn. If you find one false, say at which input.
  Laid BY PROGRAM, IN A SANDBOX (cutbox-rows.mjs): the forced cells as the released guide's own fill.sh prints them over the translation 6a537a8e2bbde4e2… (all of the seat's roots in one cut). By AI agents, Wed Nov 11 2026. No macro, syntax, notation, axiom, sorry.
-/
import Derived.Test.YtejdolfgejlckaaChecked
import GoSem.Claim
import GoSem.ClaimJoined
import GoSem.ClaimMapViews
import Derived.JoinedTies
import Derived.KernelRfl
namespace Go.Proofs.Ytejdolfgejlckaa
/- THE CELL 'sum', in the pinned program and in every row, IS THE sha256 OF THE DUMP (.gsa) THAT YtejdolfgejlckaaProg.lean LOADS. Nothing in Lean hashes anything: it is a label: what it is worth is what the hold of that sum in a sandbox is worth. -/
noncomputable def Try.pinned : Pinned := { name := "ytejdolfgejlckaa", sum := "6a537a8e2bbde4e2c98440adffa66ab200ecc1ff6540acbec89dc842333d964b", checked := Try.checked }
namespace Rows
def none {H : Type} : Left H := { results := [], args := [] }

/-- 'laws.FnQuotientsRise32': WHATEVER THE INPUT: true; the input reads as it did. -/
def fnQuotientsRise32Spec : ChangeSpec := { name := "fnQuotientsRise32", fn := fun _ => fun
  | [d1, d2, d3, d4, d5, d6] => { results := [.lit (.bool true)], args := [d1, d2, d3, d4, d5, d6] }
  | _ => none }
def fnQuotientsRise32Row : OpenClaim := { program := "ytejdolfgejlckaa", sum := "6a537a8e2bbde4e2c98440adffa66ab200ecc1ff6540acbec89dc842333d964b", func := "lib-bitlathe/laws.FnQuotientsRise32", spec := "fnQuotientsRise32", unfollowed := true, recurses := true, named := ["math/bits.overflowError"], apart := false }
def FnQuotientsRise32Said : Prop := fnQuotientsRise32Row.holds Try.pinned (OpenSpec.ofChange fnQuotientsRise32Spec)

/-- ITS FALSE NEIGHBOUR: 'it returns false'. Refute it at one input. -/
def fnQuotientsRise32Wrong : ChangeSpec := { name := "fnQuotientsRise32", fn := fun _ => fun
  | [d1, d2, d3, d4, d5, d6] => { results := [.lit (.bool false)], args := [d1, d2, d3, d4, d5, d6] }
  | _ => none }
def FnQuotientsRise32WrongFalsely : Prop := fnQuotientsRise32Row.holds Try.pinned (OpenSpec.ofChange fnQuotientsRise32Wrong)

/-- 'laws.FnProducts32': WHATEVER THE INPUT: true; the input reads as it did. -/
def fnProducts32Spec : ChangeSpec := { name := "fnProducts32", fn := fun _ => fun
  | [d1, d2, d3, d4] => { results := [.lit (.bool true)], args := [d1, d2, d3, d4] }
  | _ => none }
def fnProducts32Row : OpenClaim := { program := "ytejdolfgejlckaa", sum := "6a537a8e2bbde4e2c98440adffa66ab200ecc1ff6540acbec89dc842333d964b", func := "lib-bitlathe/laws.FnProducts32", spec := "fnProducts32", apart := false }
def FnProducts32Said : Prop := fnProducts32Row.holds Try.pinned (OpenSpec.ofChange fnProducts32Spec)

/-- ITS FALSE NEIGHBOUR: 'it returns false'. Refute it at one input. -/
def fnProducts32Wrong : ChangeSpec := { name := "fnProducts32", fn := fun _ => fun
  | [d1, d2, d3, d4] => { results := [.lit (.bool false)], args := [d1, d2, d3, d4] }
  | _ => none }
def FnProducts32WrongFalsely : Prop := fnProducts32Row.holds Try.pinned (OpenSpec.ofChange fnProducts32Wrong)

/-- 'laws.FnSumUndone32': WHATEVER THE INPUT: true; the input reads as it did. -/
def fnSumUndone32Spec : ChangeSpec := { name := "fnSumUndone32", fn := fun _ => fun
  | [d1, d2, d3] => { results := [.lit (.bool true)], args := [d1, d2, d3] }
  | _ => none }
def fnSumUndone32Row : OpenClaim := { program := "ytejdolfgejlckaa", sum := "6a537a8e2bbde4e2c98440adffa66ab200ecc1ff6540acbec89dc842333d964b", func := "lib-bitlathe/laws.FnSumUndone32", spec := "fnSumUndone32", apart := false }
def FnSumUndone32Said : Prop := fnSumUndone32Row.holds Try.pinned (OpenSpec.ofChange fnSumUndone32Spec)

/-- ITS FALSE NEIGHBOUR: 'it returns false'. Refute it at one input. -/
def fnSumUndone32Wrong : ChangeSpec := { name := "fnSumUndone32", fn := fun _ => fun
  | [d1, d2, d3] => { results := [.lit (.bool false)], args := [d1, d2, d3] }
  | _ => none }
def FnSumUndone32WrongFalsely : Prop := fnSumUndone32Row.holds Try.pinned (OpenSpec.ofChange fnSumUndone32Wrong)

/-- 'laws.FnQuotientOfProduct32': WHATEVER THE INPUT: true; the input reads as it did. -/
def fnQuotientOfProduct32Spec : ChangeSpec := { name := "fnQuotientOfProduct32", fn := fun _ => fun
  | [d1, d2, d3] => { results := [.lit (.bool true)], args := [d1, d2, d3] }
  | _ => none }
def fnQuotientOfProduct32Row : OpenClaim := { program := "ytejdolfgejlckaa", sum := "6a537a8e2bbde4e2c98440adffa66ab200ecc1ff6540acbec89dc842333d964b", func := "lib-bitlathe/laws.FnQuotientOfProduct32", spec := "fnQuotientOfProduct32", unfollowed := true, recurses := true, named := ["math/bits.overflowError"], apart := false }
def FnQuotientOfProduct32Said : Prop := fnQuotientOfProduct32Row.holds Try.pinned (OpenSpec.ofChange fnQuotientOfProduct32Spec)

/-- ITS FALSE NEIGHBOUR: 'it returns false'. Refute it at one input. -/
def fnQuotientOfProduct32Wrong : ChangeSpec := { name := "fnQuotientOfProduct32", fn := fun _ => fun
  | [d1, d2, d3] => { results := [.lit (.bool false)], args := [d1, d2, d3] }
  | _ => none }
def FnQuotientOfProduct32WrongFalsely : Prop := fnQuotientOfProduct32Row.holds Try.pinned (OpenSpec.ofChange fnQuotientOfProduct32Wrong)

/-- 'laws.FnCarries32': WHATEVER THE INPUT: true; the input reads as it did. -/
def fnCarries32Spec : ChangeSpec := { name := "fnCarries32", fn := fun _ => fun
  | [d1, d2, d3] => { results := [.lit (.bool true)], args := [d1, d2, d3] }
  | _ => none }
def fnCarries32Row : OpenClaim := { program := "ytejdolfgejlckaa", sum := "6a537a8e2bbde4e2c98440adffa66ab200ecc1ff6540acbec89dc842333d964b", func := "lib-bitlathe/laws.FnCarries32", spec := "fnCarries32", apart := false }
def FnCarries32Said : Prop := fnCarries32Row.holds Try.pinned (OpenSpec.ofChange fnCarries32Spec)

/-- ITS FALSE NEIGHBOUR: 'it returns false'. Refute it at one input. -/
def fnCarries32Wrong : ChangeSpec := { name := "fnCarries32", fn := fun _ => fun
  | [d1, d2, d3] => { results := [.lit (.bool false)], args := [d1, d2, d3] }
  | _ => none }
def FnCarries32WrongFalsely : Prop := fnCarries32Row.holds Try.pinned (OpenSpec.ofChange fnCarries32Wrong)

/-- 'laws.FnDivided32': WHATEVER THE INPUT: true; the input reads as it did. -/
def fnDivided32Spec : ChangeSpec := { name := "fnDivided32", fn := fun _ => fun
  | [d1, d2, d3] => { results := [.lit (.bool true)], args := [d1, d2, d3] }
  | _ => none }
def fnDivided32Row : OpenClaim := { program := "ytejdolfgejlckaa", sum := "6a537a8e2bbde4e2c98440adffa66ab200ecc1ff6540acbec89dc842333d964b", func := "lib-bitlathe/laws.FnDivided32", spec := "fnDivided32", unfollowed := true, recurses := true, named := ["math/bits.overflowError"], apart := false }
def FnDivided32Said : Prop := fnDivided32Row.holds Try.pinned (OpenSpec.ofChange fnDivided32Spec)

/-- ITS FALSE NEIGHBOUR: 'it returns false'. Refute it at one input. -/
def fnDivided32Wrong : ChangeSpec := { name := "fnDivided32", fn := fun _ => fun
  | [d1, d2, d3] => { results := [.lit (.bool false)], args := [d1, d2, d3] }
  | _ => none }
def FnDivided32WrongFalsely : Prop := fnDivided32Row.holds Try.pinned (OpenSpec.ofChange fnDivided32Wrong)

/-- 'laws.FnProductsOfHalves': WHATEVER THE INPUT: true; the input reads as it did. -/
def fnProductsOfHalvesSpec : ChangeSpec := { name := "fnProductsOfHalves", fn := fun _ => fun
  | [d1, d2] => { results := [.lit (.bool true)], args := [d1, d2] }
  | _ => none }
def fnProductsOfHalvesRow : OpenClaim := { program := "ytejdolfgejlckaa", sum := "6a537a8e2bbde4e2c98440adffa66ab200ecc1ff6540acbec89dc842333d964b", func := "lib-bitlathe/laws.FnProductsOfHalves", spec := "fnProductsOfHalves", inPlace := ["math/bits.Add64"], unfollowed := true, recurses := true, apart := false }
def FnProductsOfHalvesSaid : Prop := fnProductsOfHalvesRow.holds Try.pinned (OpenSpec.ofChange fnProductsOfHalvesSpec)

/-- ITS FALSE NEIGHBOUR: 'it returns false'. Refute it at one input. -/
def fnProductsOfHalvesWrong : ChangeSpec := { name := "fnProductsOfHalves", fn := fun _ => fun
  | [d1, d2] => { results := [.lit (.bool false)], args := [d1, d2] }
  | _ => none }
def FnProductsOfHalvesWrongFalsely : Prop := fnProductsOfHalvesRow.holds Try.pinned (OpenSpec.ofChange fnProductsOfHalvesWrong)

/-- 'laws.FnNegative': WHATEVER THE INPUT: true; the input reads as it did. -/
def fnNegativeSpec : ChangeSpec := { name := "fnNegative", fn := fun _ => fun
  | [d] => { results := [.lit (.bool true)], args := [d] }
  | _ => none }
def fnNegativeRow : OpenClaim := { program := "ytejdolfgejlckaa", sum := "6a537a8e2bbde4e2c98440adffa66ab200ecc1ff6540acbec89dc842333d964b", func := "lib-bitlathe/laws.FnNegative", spec := "fnNegative", inPlace := ["math/bits.Sub64", "math/bits.Add64"], apart := false }
def FnNegativeSaid : Prop := fnNegativeRow.holds Try.pinned (OpenSpec.ofChange fnNegativeSpec)

/-- ITS FALSE NEIGHBOUR: 'it returns false'. Refute it at one input. -/
def fnNegativeWrong : ChangeSpec := { name := "fnNegative", fn := fun _ => fun
  | [d] => { results := [.lit (.bool false)], args := [d] }
  | _ => none }
def FnNegativeWrongFalsely : Prop := fnNegativeRow.holds Try.pinned (OpenSpec.ofChange fnNegativeWrong)

/-- 'laws.FnSumsOfHalves': WHATEVER THE INPUT: true; the input reads as it did. -/
def fnSumsOfHalvesSpec : ChangeSpec := { name := "fnSumsOfHalves", fn := fun _ => fun
  | [d1, d2, d3] => { results := [.lit (.bool true)], args := [d1, d2, d3] }
  | _ => none }
def fnSumsOfHalvesRow : OpenClaim := { program := "ytejdolfgejlckaa", sum := "6a537a8e2bbde4e2c98440adffa66ab200ecc1ff6540acbec89dc842333d964b", func := "lib-bitlathe/laws.FnSumsOfHalves", spec := "fnSumsOfHalves", inPlace := ["math/bits.Add64", "math/bits.Sub64"], apart := false }
def FnSumsOfHalvesSaid : Prop := fnSumsOfHalvesRow.holds Try.pinned (OpenSpec.ofChange fnSumsOfHalvesSpec)

/-- ITS FALSE NEIGHBOUR: 'it returns false'. Refute it at one input. -/
def fnSumsOfHalvesWrong : ChangeSpec := { name := "fnSumsOfHalves", fn := fun _ => fun
  | [d1, d2, d3] => { results := [.lit (.bool false)], args := [d1, d2, d3] }
  | _ => none }
def FnSumsOfHalvesWrongFalsely : Prop := fnSumsOfHalvesRow.holds Try.pinned (OpenSpec.ofChange fnSumsOfHalvesWrong)

/-- 'laws.FnDividedByPowers': WHATEVER THE INPUT: true; the input reads as it did. -/
def fnDividedByPowersSpec : ChangeSpec := { name := "fnDividedByPowers", fn := fun _ => fun
  | [d1, d2, d3] => { results := [.lit (.bool true)], args := [d1, d2, d3] }
  | _ => none }
def fnDividedByPowersRow : OpenClaim := { program := "ytejdolfgejlckaa", sum := "6a537a8e2bbde4e2c98440adffa66ab200ecc1ff6540acbec89dc842333d964b", func := "lib-bitlathe/laws.FnDividedByPowers", spec := "fnDividedByPowers", unfollowed := true, recurses := true, named := ["math/bits.divideError", "math/bits.overflowError"], apart := false }
def FnDividedByPowersSaid : Prop := fnDividedByPowersRow.holds Try.pinned (OpenSpec.ofChange fnDividedByPowersSpec)

/-- ITS FALSE NEIGHBOUR: 'it returns false'. Refute it at one input. -/
def fnDividedByPowersWrong : ChangeSpec := { name := "fnDividedByPowers", fn := fun _ => fun
  | [d1, d2, d3] => { results := [.lit (.bool false)], args := [d1, d2, d3] }
  | _ => none }
def FnDividedByPowersWrongFalsely : Prop := fnDividedByPowersRow.holds Try.pinned (OpenSpec.ofChange fnDividedByPowersWrong)

/-- 'laws.FnPowersAdd': WHATEVER THE INPUT: true; the input reads as it did. -/
def fnPowersAddSpec : ChangeSpec := { name := "fnPowersAdd", fn := fun _ => fun
  | [d1, d2, d3, d4] => { results := [.lit (.bool true)], args := [d1, d2, d3, d4] }
  | _ => none }
def fnPowersAddRow : OpenClaim := { program := "ytejdolfgejlckaa", sum := "6a537a8e2bbde4e2c98440adffa66ab200ecc1ff6540acbec89dc842333d964b", func := "lib-bitlathe/laws.FnPowersAdd", spec := "fnPowersAdd", unfollowed := true, recurses := true, named := ["math/bits.divideError", "math/bits.overflowError"], apart := false }
def FnPowersAddSaid : Prop := fnPowersAddRow.holds Try.pinned (OpenSpec.ofChange fnPowersAddSpec)

/-- ITS FALSE NEIGHBOUR: 'it returns false'. Refute it at one input. -/
def fnPowersAddWrong : ChangeSpec := { name := "fnPowersAdd", fn := fun _ => fun
  | [d1, d2, d3, d4] => { results := [.lit (.bool false)], args := [d1, d2, d3, d4] }
  | _ => none }
def FnPowersAddWrongFalsely : Prop := fnPowersAddRow.holds Try.pinned (OpenSpec.ofChange fnPowersAddWrong)

/- THE SECOND FORM. 'bulk': how many values and letters a reading holds, each counted each time it is reached (what is shared counts as often as it is met; a slice's spare places count too). A statement '..UptoSaid' is the law's where the arguments, and the package variables that the reading takes, are together of bulk at most 1048576: NARROWER than '..Said'. Prove '..Said' where nothing that the law and all that it calls make is longer than what came in: it says more and counts as full. Else prove '..UptoSaid'. A law counts once. -/
mutual
def uptoBulk {H : Type} : DataW H → Nat
  | .lit (.string bytes) => bytes.length + 1
  | .lit _ => 1
  | .nil => 1
  | .ptr d => uptoBulk d + 1
  | .slice elems spare => uptoBulkAll elems + uptoBulkAll spare + 1
  | .agg parts => uptoBulkAll parts + 1
  | .iface _ d => uptoBulk d + 1
  | .map entries => uptoBulkEntries entries + 1
  | .held _ => 1
def uptoBulkAll {H : Type} : List (DataW H) → Nat
  | [] => 0
  | d :: r => uptoBulk d + uptoBulkAll r
def uptoBulkEntries {H : Type} : List (Lit × DataW H) → Nat
  | [] => 0
  | x :: r => uptoBulkEntry x + uptoBulkEntries r
def uptoBulkEntry {H : Type} : Lit × DataW H → Nat
  | (.string bytes, d) => bytes.length + uptoBulk d + 1
  | (_, d) => uptoBulk d + 1
 end
def uptoSmall : (H : Type) → List (DataW H) → Bool := fun _ ds => decide (uptoBulkAll ds ≤ 1048576)
def OpenSpec.upto (s : _root_.Go.ChangeSpec) : _root_.Go.OpenSpec := { _root_.Go.OpenSpec.ofChange s with cond := some uptoSmall }

/-- 'laws.FnQuotientsRise32', WHERE WHAT IT READS IS OF BULK AT MOST 1048576: true; the input reads as it did. -/
def fnQuotientsRise32UptoRow : OpenClaim := { program := "ytejdolfgejlckaa", sum := "6a537a8e2bbde4e2c98440adffa66ab200ecc1ff6540acbec89dc842333d964b", func := "lib-bitlathe/laws.FnQuotientsRise32", spec := "fnQuotientsRise32", unfollowed := true, recurses := true, named := ["math/bits.overflowError"], apart := false, narrowed := true }
def FnQuotientsRise32UptoSaid : Prop := fnQuotientsRise32UptoRow.holds Try.pinned (OpenSpec.upto fnQuotientsRise32Spec)

/-- 'laws.FnProducts32', WHERE WHAT IT READS IS OF BULK AT MOST 1048576: true; the input reads as it did. -/
def fnProducts32UptoRow : OpenClaim := { program := "ytejdolfgejlckaa", sum := "6a537a8e2bbde4e2c98440adffa66ab200ecc1ff6540acbec89dc842333d964b", func := "lib-bitlathe/laws.FnProducts32", spec := "fnProducts32", apart := false, narrowed := true }
def FnProducts32UptoSaid : Prop := fnProducts32UptoRow.holds Try.pinned (OpenSpec.upto fnProducts32Spec)

/-- 'laws.FnSumUndone32', WHERE WHAT IT READS IS OF BULK AT MOST 1048576: true; the input reads as it did. -/
def fnSumUndone32UptoRow : OpenClaim := { program := "ytejdolfgejlckaa", sum := "6a537a8e2bbde4e2c98440adffa66ab200ecc1ff6540acbec89dc842333d964b", func := "lib-bitlathe/laws.FnSumUndone32", spec := "fnSumUndone32", apart := false, narrowed := true }
def FnSumUndone32UptoSaid : Prop := fnSumUndone32UptoRow.holds Try.pinned (OpenSpec.upto fnSumUndone32Spec)

/-- 'laws.FnQuotientOfProduct32', WHERE WHAT IT READS IS OF BULK AT MOST 1048576: true; the input reads as it did. -/
def fnQuotientOfProduct32UptoRow : OpenClaim := { program := "ytejdolfgejlckaa", sum := "6a537a8e2bbde4e2c98440adffa66ab200ecc1ff6540acbec89dc842333d964b", func := "lib-bitlathe/laws.FnQuotientOfProduct32", spec := "fnQuotientOfProduct32", unfollowed := true, recurses := true, named := ["math/bits.overflowError"], apart := false, narrowed := true }
def FnQuotientOfProduct32UptoSaid : Prop := fnQuotientOfProduct32UptoRow.holds Try.pinned (OpenSpec.upto fnQuotientOfProduct32Spec)

/-- 'laws.FnCarries32', WHERE WHAT IT READS IS OF BULK AT MOST 1048576: true; the input reads as it did. -/
def fnCarries32UptoRow : OpenClaim := { program := "ytejdolfgejlckaa", sum := "6a537a8e2bbde4e2c98440adffa66ab200ecc1ff6540acbec89dc842333d964b", func := "lib-bitlathe/laws.FnCarries32", spec := "fnCarries32", apart := false, narrowed := true }
def FnCarries32UptoSaid : Prop := fnCarries32UptoRow.holds Try.pinned (OpenSpec.upto fnCarries32Spec)

/-- 'laws.FnDivided32', WHERE WHAT IT READS IS OF BULK AT MOST 1048576: true; the input reads as it did. -/
def fnDivided32UptoRow : OpenClaim := { program := "ytejdolfgejlckaa", sum := "6a537a8e2bbde4e2c98440adffa66ab200ecc1ff6540acbec89dc842333d964b", func := "lib-bitlathe/laws.FnDivided32", spec := "fnDivided32", unfollowed := true, recurses := true, named := ["math/bits.overflowError"], apart := false, narrowed := true }
def FnDivided32UptoSaid : Prop := fnDivided32UptoRow.holds Try.pinned (OpenSpec.upto fnDivided32Spec)

/-- 'laws.FnProductsOfHalves', WHERE WHAT IT READS IS OF BULK AT MOST 1048576: true; the input reads as it did. -/
def fnProductsOfHalvesUptoRow : OpenClaim := { program := "ytejdolfgejlckaa", sum := "6a537a8e2bbde4e2c98440adffa66ab200ecc1ff6540acbec89dc842333d964b", func := "lib-bitlathe/laws.FnProductsOfHalves", spec := "fnProductsOfHalves", inPlace := ["math/bits.Add64"], unfollowed := true, recurses := true, apart := false, narrowed := true }
def FnProductsOfHalvesUptoSaid : Prop := fnProductsOfHalvesUptoRow.holds Try.pinned (OpenSpec.upto fnProductsOfHalvesSpec)

/-- 'laws.FnNegative', WHERE WHAT IT READS IS OF BULK AT MOST 1048576: true; the input reads as it did. -/
def fnNegativeUptoRow : OpenClaim := { program := "ytejdolfgejlckaa", sum := "6a537a8e2bbde4e2c98440adffa66ab200ecc1ff6540acbec89dc842333d964b", func := "lib-bitlathe/laws.FnNegative", spec := "fnNegative", inPlace := ["math/bits.Sub64", "math/bits.Add64"], apart := false, narrowed := true }
def FnNegativeUptoSaid : Prop := fnNegativeUptoRow.holds Try.pinned (OpenSpec.upto fnNegativeSpec)

/-- 'laws.FnSumsOfHalves', WHERE WHAT IT READS IS OF BULK AT MOST 1048576: true; the input reads as it did. -/
def fnSumsOfHalvesUptoRow : OpenClaim := { program := "ytejdolfgejlckaa", sum := "6a537a8e2bbde4e2c98440adffa66ab200ecc1ff6540acbec89dc842333d964b", func := "lib-bitlathe/laws.FnSumsOfHalves", spec := "fnSumsOfHalves", inPlace := ["math/bits.Add64", "math/bits.Sub64"], apart := false, narrowed := true }
def FnSumsOfHalvesUptoSaid : Prop := fnSumsOfHalvesUptoRow.holds Try.pinned (OpenSpec.upto fnSumsOfHalvesSpec)

/-- 'laws.FnDividedByPowers', WHERE WHAT IT READS IS OF BULK AT MOST 1048576: true; the input reads as it did. -/
def fnDividedByPowersUptoRow : OpenClaim := { program := "ytejdolfgejlckaa", sum := "6a537a8e2bbde4e2c98440adffa66ab200ecc1ff6540acbec89dc842333d964b", func := "lib-bitlathe/laws.FnDividedByPowers", spec := "fnDividedByPowers", unfollowed := true, recurses := true, named := ["math/bits.divideError", "math/bits.overflowError"], apart := false, narrowed := true }
def FnDividedByPowersUptoSaid : Prop := fnDividedByPowersUptoRow.holds Try.pinned (OpenSpec.upto fnDividedByPowersSpec)

/-- 'laws.FnPowersAdd', WHERE WHAT IT READS IS OF BULK AT MOST 1048576: true; the input reads as it did. -/
def fnPowersAddUptoRow : OpenClaim := { program := "ytejdolfgejlckaa", sum := "6a537a8e2bbde4e2c98440adffa66ab200ecc1ff6540acbec89dc842333d964b", func := "lib-bitlathe/laws.FnPowersAdd", spec := "fnPowersAdd", unfollowed := true, recurses := true, named := ["math/bits.divideError", "math/bits.overflowError"], apart := false, narrowed := true }
def FnPowersAddUptoSaid : Prop := fnPowersAddUptoRow.holds Try.pinned (OpenSpec.upto fnPowersAddSpec)

end Rows
end Go.Proofs.Ytejdolfgejlckaa
