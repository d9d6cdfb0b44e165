import Derived.Test.Qxb6603130aRows
import Derived.WalkKit
import Derived.ProofKit
namespace Go.Proofs.Qxb6603130a
open Go.RowKit

theorem closed3 : joinedFacts Try.pinned.checked.prog 3 Try.f3 Rows.fnUnionHoldsJustTheMembersOfItsSetsSpec Rows.fnUnionHoldsJustTheMembersOfItsSetsRow = true := by kernel_rfl
end Go.Proofs.Qxb6603130a
