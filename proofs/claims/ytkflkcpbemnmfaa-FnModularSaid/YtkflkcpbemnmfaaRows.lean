/-
  No cell of these rows narrows 'for every input' (looked for: loops, veiled, ifaces, maps, wideKeys, modest, calm, conditions, laid).
  DERIVED. THE GIVEN ROWS OF THIS SEAT. 12 by the template 'for every input the law returns true; each argument reads behind the call as it read before'; 0 by the template 'total and deterministic' (their statements: YtkflkcpbemnmfaaTotals.lean).
  GIVEN WITH THE SEED: the statements are not yours to turn. If you find one false, say at which input.
  Laid BY PROGRAM, IN A SANDBOX (cutbox-rows.mjs): the forced cells as the released guide's own fill.sh prints them over the translation 23e182381d3ef066… (all of the seat's roots in one cut). By AI agents, Wed Nov 11 2026. No macro, syntax, notation, axiom, sorry.
-/
import Derived.Test.YtkflkcpbemnmfaaChecked
import GoSem.Claim
import GoSem.ClaimJoined
import GoSem.ClaimMapViews
import Derived.JoinedTies
import Derived.KernelRfl
namespace Go.Proofs.Ytkflkcpbemnmfaa
/- THE CELL 'sum', in the pinned program and in every row, IS THE sha256 OF THE DUMP (.gsa) THAT YtkflkcpbemnmfaaProg.lean LOADS. Nothing in Lean hashes anything: it is a label: what it is worth is what the hold of that sum in a sandbox is worth. -/
noncomputable def Try.pinned : Pinned := { name := "ytkflkcpbemnmfaa", sum := "23e182381d3ef06663e4b4e85687a0500d96542302f614868902498e43f24204", checked := Try.checked }
namespace Rows
def none {H : Type} : Left H := { results := [], args := [] }

/-- 'laws.FnMul32': WHATEVER THE INPUT: true; the input reads as it did. -/
def fnMul32Spec : ChangeSpec := { name := "fnMul32", fn := fun _ => fun
  | [d1, d2] => { results := [.lit (.bool true)], args := [d1, d2] }
  | _ => none }
def fnMul32Row : OpenClaim := { program := "ytkflkcpbemnmfaa", sum := "23e182381d3ef06663e4b4e85687a0500d96542302f614868902498e43f24204", func := "lib-bitlathe/laws.FnMul32", spec := "fnMul32", apart := false }
def FnMul32Said : Prop := fnMul32Row.holds Try.pinned (OpenSpec.ofChange fnMul32Spec)

/-- ITS FALSE NEIGHBOUR: 'it returns false'. Refute it at one input. -/
def fnMul32Wrong : ChangeSpec := { name := "fnMul32", fn := fun _ => fun
  | [d1, d2] => { results := [.lit (.bool false)], args := [d1, d2] }
  | _ => none }
def FnMul32WrongFalsely : Prop := fnMul32Row.holds Try.pinned (OpenSpec.ofChange fnMul32Wrong)

/-- 'laws.FnRem32': WHATEVER THE INPUT: true; the input reads as it did. -/
def fnRem32Spec : ChangeSpec := { name := "fnRem32", fn := fun _ => fun
  | [d1, d2, d3] => { results := [.lit (.bool true)], args := [d1, d2, d3] }
  | _ => none }
def fnRem32Row : OpenClaim := { program := "ytkflkcpbemnmfaa", sum := "23e182381d3ef06663e4b4e85687a0500d96542302f614868902498e43f24204", func := "lib-bitlathe/laws.FnRem32", spec := "fnRem32", unfollowed := true, recurses := true, apart := false }
def FnRem32Said : Prop := fnRem32Row.holds Try.pinned (OpenSpec.ofChange fnRem32Spec)

/-- ITS FALSE NEIGHBOUR: 'it returns false'. Refute it at one input. -/
def fnRem32Wrong : ChangeSpec := { name := "fnRem32", fn := fun _ => fun
  | [d1, d2, d3] => { results := [.lit (.bool false)], args := [d1, d2, d3] }
  | _ => none }
def FnRem32WrongFalsely : Prop := fnRem32Row.holds Try.pinned (OpenSpec.ofChange fnRem32Wrong)

/-- 'laws.FnAdd32': WHATEVER THE INPUT: true; the input reads as it did. -/
def fnAdd32Spec : ChangeSpec := { name := "fnAdd32", fn := fun _ => fun
  | [d1, d2, d3] => { results := [.lit (.bool true)], args := [d1, d2, d3] }
  | _ => none }
def fnAdd32Row : OpenClaim := { program := "ytkflkcpbemnmfaa", sum := "23e182381d3ef06663e4b4e85687a0500d96542302f614868902498e43f24204", func := "lib-bitlathe/laws.FnAdd32", spec := "fnAdd32", apart := false }
def FnAdd32Said : Prop := fnAdd32Row.holds Try.pinned (OpenSpec.ofChange fnAdd32Spec)

/-- ITS FALSE NEIGHBOUR: 'it returns false'. Refute it at one input. -/
def fnAdd32Wrong : ChangeSpec := { name := "fnAdd32", fn := fun _ => fun
  | [d1, d2, d3] => { results := [.lit (.bool false)], args := [d1, d2, d3] }
  | _ => none }
def FnAdd32WrongFalsely : Prop := fnAdd32Row.holds Try.pinned (OpenSpec.ofChange fnAdd32Wrong)

/-- 'laws.FnSub64': WHATEVER THE INPUT: true; the input reads as it did. -/
def fnSub64Spec : ChangeSpec := { name := "fnSub64", fn := fun _ => fun
  | [d1, d2, d3] => { results := [.lit (.bool true)], args := [d1, d2, d3] }
  | _ => none }
def fnSub64Row : OpenClaim := { program := "ytkflkcpbemnmfaa", sum := "23e182381d3ef06663e4b4e85687a0500d96542302f614868902498e43f24204", func := "lib-bitlathe/laws.FnSub64", spec := "fnSub64", inPlace := ["math/bits.Sub64"], apart := false }
def FnSub64Said : Prop := fnSub64Row.holds Try.pinned (OpenSpec.ofChange fnSub64Spec)

/-- ITS FALSE NEIGHBOUR: 'it returns false'. Refute it at one input. -/
def fnSub64Wrong : ChangeSpec := { name := "fnSub64", fn := fun _ => fun
  | [d1, d2, d3] => { results := [.lit (.bool false)], args := [d1, d2, d3] }
  | _ => none }
def FnSub64WrongFalsely : Prop := fnSub64Row.holds Try.pinned (OpenSpec.ofChange fnSub64Wrong)

/-- 'laws.FnAdd64': WHATEVER THE INPUT: true; the input reads as it did. -/
def fnAdd64Spec : ChangeSpec := { name := "fnAdd64", fn := fun _ => fun
  | [d1, d2, d3] => { results := [.lit (.bool true)], args := [d1, d2, d3] }
  | _ => none }
def fnAdd64Row : OpenClaim := { program := "ytkflkcpbemnmfaa", sum := "23e182381d3ef06663e4b4e85687a0500d96542302f614868902498e43f24204", func := "lib-bitlathe/laws.FnAdd64", spec := "fnAdd64", inPlace := ["math/bits.Add64"], apart := false }
def FnAdd64Said : Prop := fnAdd64Row.holds Try.pinned (OpenSpec.ofChange fnAdd64Spec)

/-- ITS FALSE NEIGHBOUR: 'it returns false'. Refute it at one input. -/
def fnAdd64Wrong : ChangeSpec := { name := "fnAdd64", fn := fun _ => fun
  | [d1, d2, d3] => { results := [.lit (.bool false)], args := [d1, d2, d3] }
  | _ => none }
def FnAdd64WrongFalsely : Prop := fnAdd64Row.holds Try.pinned (OpenSpec.ofChange fnAdd64Wrong)

/-- 'laws.FnSub32': WHATEVER THE INPUT: true; the input reads as it did. -/
def fnSub32Spec : ChangeSpec := { name := "fnSub32", fn := fun _ => fun
  | [d1, d2, d3] => { results := [.lit (.bool true)], args := [d1, d2, d3] }
  | _ => none }
def fnSub32Row : OpenClaim := { program := "ytkflkcpbemnmfaa", sum := "23e182381d3ef06663e4b4e85687a0500d96542302f614868902498e43f24204", func := "lib-bitlathe/laws.FnSub32", spec := "fnSub32", apart := false }
def FnSub32Said : Prop := fnSub32Row.holds Try.pinned (OpenSpec.ofChange fnSub32Spec)

/-- ITS FALSE NEIGHBOUR: 'it returns false'. Refute it at one input. -/
def fnSub32Wrong : ChangeSpec := { name := "fnSub32", fn := fun _ => fun
  | [d1, d2, d3] => { results := [.lit (.bool false)], args := [d1, d2, d3] }
  | _ => none }
def FnSub32WrongFalsely : Prop := fnSub32Row.holds Try.pinned (OpenSpec.ofChange fnSub32Wrong)

/-- 'laws.FnDiv32': WHATEVER THE INPUT: true; the input reads as it did. -/
def fnDiv32Spec : ChangeSpec := { name := "fnDiv32", fn := fun _ => fun
  | [d1, d2, d3] => { results := [.lit (.bool true)], args := [d1, d2, d3] }
  | _ => none }
def fnDiv32Row : OpenClaim := { program := "ytkflkcpbemnmfaa", sum := "23e182381d3ef06663e4b4e85687a0500d96542302f614868902498e43f24204", func := "lib-bitlathe/laws.FnDiv32", spec := "fnDiv32", unfollowed := true, recurses := true, named := ["math/bits.overflowError"], apart := false }
def FnDiv32Said : Prop := fnDiv32Row.holds Try.pinned (OpenSpec.ofChange fnDiv32Spec)

/-- ITS FALSE NEIGHBOUR: 'it returns false'. Refute it at one input. -/
def fnDiv32Wrong : ChangeSpec := { name := "fnDiv32", fn := fun _ => fun
  | [d1, d2, d3] => { results := [.lit (.bool false)], args := [d1, d2, d3] }
  | _ => none }
def FnDiv32WrongFalsely : Prop := fnDiv32Row.holds Try.pinned (OpenSpec.ofChange fnDiv32Wrong)

/-- 'laws.FnMul64': WHATEVER THE INPUT: true; the input reads as it did. -/
def fnMul64Spec : ChangeSpec := { name := "fnMul64", fn := fun _ => fun
  | [d1, d2] => { results := [.lit (.bool true)], args := [d1, d2] }
  | _ => none }
def fnMul64Row : OpenClaim := { program := "ytkflkcpbemnmfaa", sum := "23e182381d3ef06663e4b4e85687a0500d96542302f614868902498e43f24204", func := "lib-bitlathe/laws.FnMul64", spec := "fnMul64", apart := false }
def FnMul64Said : Prop := fnMul64Row.holds Try.pinned (OpenSpec.ofChange fnMul64Spec)

/-- ITS FALSE NEIGHBOUR: 'it returns false'. Refute it at one input. -/
def fnMul64Wrong : ChangeSpec := { name := "fnMul64", fn := fun _ => fun
  | [d1, d2] => { results := [.lit (.bool false)], args := [d1, d2] }
  | _ => none }
def FnMul64WrongFalsely : Prop := fnMul64Row.holds Try.pinned (OpenSpec.ofChange fnMul64Wrong)

/-- 'laws.FnAdd': WHATEVER THE INPUT: true; the input reads as it did. -/
def fnAddSpec : ChangeSpec := { name := "fnAdd", fn := fun _ => fun
  | [d1, d2, d3] => { results := [.lit (.bool true)], args := [d1, d2, d3] }
  | _ => none }
def fnAddRow : OpenClaim := { program := "ytkflkcpbemnmfaa", sum := "23e182381d3ef06663e4b4e85687a0500d96542302f614868902498e43f24204", func := "lib-bitlathe/laws.FnAdd", spec := "fnAdd", inPlace := ["math/bits.Add64"], apart := false }
def FnAddSaid : Prop := fnAddRow.holds Try.pinned (OpenSpec.ofChange fnAddSpec)

/-- ITS FALSE NEIGHBOUR: 'it returns false'. Refute it at one input. -/
def fnAddWrong : ChangeSpec := { name := "fnAdd", fn := fun _ => fun
  | [d1, d2, d3] => { results := [.lit (.bool false)], args := [d1, d2, d3] }
  | _ => none }
def FnAddWrongFalsely : Prop := fnAddRow.holds Try.pinned (OpenSpec.ofChange fnAddWrong)

/-- 'laws.FnSub': WHATEVER THE INPUT: true; the input reads as it did. -/
def fnSubSpec : ChangeSpec := { name := "fnSub", fn := fun _ => fun
  | [d1, d2, d3] => { results := [.lit (.bool true)], args := [d1, d2, d3] }
  | _ => none }
def fnSubRow : OpenClaim := { program := "ytkflkcpbemnmfaa", sum := "23e182381d3ef06663e4b4e85687a0500d96542302f614868902498e43f24204", func := "lib-bitlathe/laws.FnSub", spec := "fnSub", inPlace := ["math/bits.Sub64"], apart := false }
def FnSubSaid : Prop := fnSubRow.holds Try.pinned (OpenSpec.ofChange fnSubSpec)

/-- ITS FALSE NEIGHBOUR: 'it returns false'. Refute it at one input. -/
def fnSubWrong : ChangeSpec := { name := "fnSub", fn := fun _ => fun
  | [d1, d2, d3] => { results := [.lit (.bool false)], args := [d1, d2, d3] }
  | _ => none }
def FnSubWrongFalsely : Prop := fnSubRow.holds Try.pinned (OpenSpec.ofChange fnSubWrong)

/-- 'laws.FnMul': WHATEVER THE INPUT: true; the input reads as it did. -/
def fnMulSpec : ChangeSpec := { name := "fnMul", fn := fun _ => fun
  | [d1, d2] => { results := [.lit (.bool true)], args := [d1, d2] }
  | _ => none }
def fnMulRow : OpenClaim := { program := "ytkflkcpbemnmfaa", sum := "23e182381d3ef06663e4b4e85687a0500d96542302f614868902498e43f24204", func := "lib-bitlathe/laws.FnMul", spec := "fnMul", apart := false }
def FnMulSaid : Prop := fnMulRow.holds Try.pinned (OpenSpec.ofChange fnMulSpec)

/-- ITS FALSE NEIGHBOUR: 'it returns false'. Refute it at one input. -/
def fnMulWrong : ChangeSpec := { name := "fnMul", fn := fun _ => fun
  | [d1, d2] => { results := [.lit (.bool false)], args := [d1, d2] }
  | _ => none }
def FnMulWrongFalsely : Prop := fnMulRow.holds Try.pinned (OpenSpec.ofChange fnMulWrong)

/-- 'laws.FnModular': WHATEVER THE INPUT: true; the input reads as it did. -/
def fnModularSpec : ChangeSpec := { name := "fnModular", fn := fun _ => fun
  | [d1, d2, d3, d4] => { results := [.lit (.bool true)], args := [d1, d2, d3, d4] }
  | _ => none }
def fnModularRow : OpenClaim := { program := "ytkflkcpbemnmfaa", sum := "23e182381d3ef06663e4b4e85687a0500d96542302f614868902498e43f24204", func := "lib-bitlathe/laws.FnModular", spec := "fnModular", inPlace := ["math/bits.Add64"], unfollowed := true, recurses := true, named := ["math/bits.divideError", "math/bits.overflowError"], apart := false }
def FnModularSaid : Prop := fnModularRow.holds Try.pinned (OpenSpec.ofChange fnModularSpec)

/-- ITS FALSE NEIGHBOUR: 'it returns false'. Refute it at one input. -/
def fnModularWrong : ChangeSpec := { name := "fnModular", fn := fun _ => fun
  | [d1, d2, d3, d4] => { results := [.lit (.bool false)], args := [d1, d2, d3, d4] }
  | _ => none }
def FnModularWrongFalsely : Prop := fnModularRow.holds Try.pinned (OpenSpec.ofChange fnModularWrong)

/- THE SECOND FORM. 'bulk': how many values and letters a reading holds, each counted each time it is reached (what is shared counts as often as it is met; a slice's spare places count too). A statement '..UptoSaid' is the law's where the arguments, and the package variables that the reading takes, are together of bulk at most 1048576: NARROWER than '..Said'. Prove '..Said' where nothing that the law and all that it calls make is longer than what came in: it says more and counts as full. Else prove '..UptoSaid'. A law counts once. -/
mutual
def uptoBulk {H : Type} : DataW H → Nat
  | .lit (.string bytes) => bytes.length + 1
  | .lit _ => 1
  | .nil => 1
  | .ptr d => uptoBulk d + 1
  | .slice elems spare => uptoBulkAll elems + uptoBulkAll spare + 1
  | .agg parts => uptoBulkAll parts + 1
  | .iface _ d => uptoBulk d + 1
  | .map entries => uptoBulkEntries entries + 1
  | .held _ => 1
def uptoBulkAll {H : Type} : List (DataW H) → Nat
  | [] => 0
  | d :: r => uptoBulk d + uptoBulkAll r
def uptoBulkEntries {H : Type} : List (Lit × DataW H) → Nat
  | [] => 0
  | x :: r => uptoBulkEntry x + uptoBulkEntries r
def uptoBulkEntry {H : Type} : Lit × DataW H → Nat
  | (.string bytes, d) => bytes.length + uptoBulk d + 1
  | (_, d) => uptoBulk d + 1
 end
def uptoSmall : (H : Type) → List (DataW H) → Bool := fun _ ds => decide (uptoBulkAll ds ≤ 1048576)
def OpenSpec.upto (s : _root_.Go.ChangeSpec) : _root_.Go.OpenSpec := { _root_.Go.OpenSpec.ofChange s with cond := some uptoSmall }

/-- 'laws.FnMul32', WHERE WHAT IT READS IS OF BULK AT MOST 1048576: true; the input reads as it did. -/
def fnMul32UptoRow : OpenClaim := { program := "ytkflkcpbemnmfaa", sum := "23e182381d3ef06663e4b4e85687a0500d96542302f614868902498e43f24204", func := "lib-bitlathe/laws.FnMul32", spec := "fnMul32", apart := false, narrowed := true }
def FnMul32UptoSaid : Prop := fnMul32UptoRow.holds Try.pinned (OpenSpec.upto fnMul32Spec)

/-- 'laws.FnRem32', WHERE WHAT IT READS IS OF BULK AT MOST 1048576: true; the input reads as it did. -/
def fnRem32UptoRow : OpenClaim := { program := "ytkflkcpbemnmfaa", sum := "23e182381d3ef06663e4b4e85687a0500d96542302f614868902498e43f24204", func := "lib-bitlathe/laws.FnRem32", spec := "fnRem32", unfollowed := true, recurses := true, apart := false, narrowed := true }
def FnRem32UptoSaid : Prop := fnRem32UptoRow.holds Try.pinned (OpenSpec.upto fnRem32Spec)

/-- 'laws.FnAdd32', WHERE WHAT IT READS IS OF BULK AT MOST 1048576: true; the input reads as it did. -/
def fnAdd32UptoRow : OpenClaim := { program := "ytkflkcpbemnmfaa", sum := "23e182381d3ef06663e4b4e85687a0500d96542302f614868902498e43f24204", func := "lib-bitlathe/laws.FnAdd32", spec := "fnAdd32", apart := false, narrowed := true }
def FnAdd32UptoSaid : Prop := fnAdd32UptoRow.holds Try.pinned (OpenSpec.upto fnAdd32Spec)

/-- 'laws.FnSub64', WHERE WHAT IT READS IS OF BULK AT MOST 1048576: true; the input reads as it did. -/
def fnSub64UptoRow : OpenClaim := { program := "ytkflkcpbemnmfaa", sum := "23e182381d3ef06663e4b4e85687a0500d96542302f614868902498e43f24204", func := "lib-bitlathe/laws.FnSub64", spec := "fnSub64", inPlace := ["math/bits.Sub64"], apart := false, narrowed := true }
def FnSub64UptoSaid : Prop := fnSub64UptoRow.holds Try.pinned (OpenSpec.upto fnSub64Spec)

/-- 'laws.FnAdd64', WHERE WHAT IT READS IS OF BULK AT MOST 1048576: true; the input reads as it did. -/
def fnAdd64UptoRow : OpenClaim := { program := "ytkflkcpbemnmfaa", sum := "23e182381d3ef06663e4b4e85687a0500d96542302f614868902498e43f24204", func := "lib-bitlathe/laws.FnAdd64", spec := "fnAdd64", inPlace := ["math/bits.Add64"], apart := false, narrowed := true }
def FnAdd64UptoSaid : Prop := fnAdd64UptoRow.holds Try.pinned (OpenSpec.upto fnAdd64Spec)

/-- 'laws.FnSub32', WHERE WHAT IT READS IS OF BULK AT MOST 1048576: true; the input reads as it did. -/
def fnSub32UptoRow : OpenClaim := { program := "ytkflkcpbemnmfaa", sum := "23e182381d3ef06663e4b4e85687a0500d96542302f614868902498e43f24204", func := "lib-bitlathe/laws.FnSub32", spec := "fnSub32", apart := false, narrowed := true }
def FnSub32UptoSaid : Prop := fnSub32UptoRow.holds Try.pinned (OpenSpec.upto fnSub32Spec)

/-- 'laws.FnDiv32', WHERE WHAT IT READS IS OF BULK AT MOST 1048576: true; the input reads as it did. -/
def fnDiv32UptoRow : OpenClaim := { program := "ytkflkcpbemnmfaa", sum := "23e182381d3ef06663e4b4e85687a0500d96542302f614868902498e43f24204", func := "lib-bitlathe/laws.FnDiv32", spec := "fnDiv32", unfollowed := true, recurses := true, named := ["math/bits.overflowError"], apart := false, narrowed := true }
def FnDiv32UptoSaid : Prop := fnDiv32UptoRow.holds Try.pinned (OpenSpec.upto fnDiv32Spec)

/-- 'laws.FnMul64', WHERE WHAT IT READS IS OF BULK AT MOST 1048576: true; the input reads as it did. -/
def fnMul64UptoRow : OpenClaim := { program := "ytkflkcpbemnmfaa", sum := "23e182381d3ef06663e4b4e85687a0500d96542302f614868902498e43f24204", func := "lib-bitlathe/laws.FnMul64", spec := "fnMul64", apart := false, narrowed := true }
def FnMul64UptoSaid : Prop := fnMul64UptoRow.holds Try.pinned (OpenSpec.upto fnMul64Spec)

/-- 'laws.FnAdd', WHERE WHAT IT READS IS OF BULK AT MOST 1048576: true; the input reads as it did. -/
def fnAddUptoRow : OpenClaim := { program := "ytkflkcpbemnmfaa", sum := "23e182381d3ef06663e4b4e85687a0500d96542302f614868902498e43f24204", func := "lib-bitlathe/laws.FnAdd", spec := "fnAdd", inPlace := ["math/bits.Add64"], apart := false, narrowed := true }
def FnAddUptoSaid : Prop := fnAddUptoRow.holds Try.pinned (OpenSpec.upto fnAddSpec)

/-- 'laws.FnSub', WHERE WHAT IT READS IS OF BULK AT MOST 1048576: true; the input reads as it did. -/
def fnSubUptoRow : OpenClaim := { program := "ytkflkcpbemnmfaa", sum := "23e182381d3ef06663e4b4e85687a0500d96542302f614868902498e43f24204", func := "lib-bitlathe/laws.FnSub", spec := "fnSub", inPlace := ["math/bits.Sub64"], apart := false, narrowed := true }
def FnSubUptoSaid : Prop := fnSubUptoRow.holds Try.pinned (OpenSpec.upto fnSubSpec)

/-- 'laws.FnMul', WHERE WHAT IT READS IS OF BULK AT MOST 1048576: true; the input reads as it did. -/
def fnMulUptoRow : OpenClaim := { program := "ytkflkcpbemnmfaa", sum := "23e182381d3ef06663e4b4e85687a0500d96542302f614868902498e43f24204", func := "lib-bitlathe/laws.FnMul", spec := "fnMul", apart := false, narrowed := true }
def FnMulUptoSaid : Prop := fnMulUptoRow.holds Try.pinned (OpenSpec.upto fnMulSpec)

/-- 'laws.FnModular', WHERE WHAT IT READS IS OF BULK AT MOST 1048576: true; the input reads as it did. -/
def fnModularUptoRow : OpenClaim := { program := "ytkflkcpbemnmfaa", sum := "23e182381d3ef06663e4b4e85687a0500d96542302f614868902498e43f24204", func := "lib-bitlathe/laws.FnModular", spec := "fnModular", inPlace := ["math/bits.Add64"], unfollowed := true, recurses := true, named := ["math/bits.divideError", "math/bits.overflowError"], apart := false, narrowed := true }
def FnModularUptoSaid : Prop := fnModularUptoRow.holds Try.pinned (OpenSpec.upto fnModularSpec)

end Rows
end Go.Proofs.Ytkflkcpbemnmfaa
