/- Small contracts that the laws share: the helper bit; from a fitting integer to its bounds. -/
import Derived.Test.YtejdolfgejlckaaDoorWalkW
import Derived.OpenShut
namespace Go.Proofs.YtejdolfgejlckaaDoor
open Go.RowKit
theorem wf_u64 {x : Int} (h : (Lit.int .u64 x).wf = true) : U64 x := by
  simp [Lit.wf, IntKind.min, IntKind.max, IntKind.signed, IntKind.bits] at h
  unfold U64
  omega
theorem wf_u32 {x : Int} (h : (Lit.int .u32 x).wf = true) : U32 x := by
  simp [Lit.wf, IntKind.min, IntKind.max, IntKind.signed, IntKind.bits] at h
  unfold U32
  omega
theorem bt {w0 w w1 : World} (h : Below w0.heap.size w0 w) (h2 : Below w.heap.size w w1) : Below w0.heap.size w0 w1 := h.trans (h2.mono h.size)
/-- 1 for true. -/
def bitI (b : Bool) : Int := if b then 1 else 0
theorem B1_bitI (b : Bool) : B1 (bitI b) := by cases b <;> simp [B1, bitI]
end Go.Proofs.YtejdolfgejlckaaDoor
