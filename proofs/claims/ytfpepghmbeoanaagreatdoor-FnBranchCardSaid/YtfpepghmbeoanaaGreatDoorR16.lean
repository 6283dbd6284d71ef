/-
Closed facts of the row of FnBranch, joined.
-/
import Derived.Test.YtfpepghmbeoanaaGreatDoorR13
import Derived.Test.YtfpepghmbeoanaaGreatDoorR14
import Derived.Test.YtfpepghmbeoanaaGreatDoorR15
set_option linter.unusedSimpArgs false
set_option linter.unusedVariables false
open Go
namespace Go.Proofs.YtfpepghmbeoanaaGreatDoor
theorem fnBranch_and {a b : Bool} (h : a = true) (k : b = true) : (a && b) = true := by rw [h, k]; rfl
set_option maxRecDepth 100000 in
theorem fnBranch_closed : joinedFacts Tryz.prog 5 Tryz.f5 Rows.fnBranchSpec Rows.fnBranchRow = true := by
  unfold joinedFacts
  exact fnBranch_and (fnBranch_and (fnBranch_and (fnBranch_and (fnBranch_and (fnBranch_and (fnBranch_and (fnBranch_and (fnBranch_and (fnBranch_and (fnBranch_and (fnBranch_and (fnBranch_and (fnBranch_and (fnBranch_and (fnBranch_and (fnBranch_and (fnBranch_and (fnBranch_and (fnBranch_and (fnBranch_and (fnBranch_and (fnBranch_and (fnBranch_and (fnBranch_and (fnBranch_and (fnBranch_and (fnBranch_and (fnBranch_and (fnBranch_and (fnBranch_and (fnBranch_j0) fnBranch_j1) fnBranch_j2) fnBranch_j3) fnBranch_j4) fnBranch_j5) fnBranch_j6) fnBranch_j7) fnBranch_j8) fnBranch_j9) fnBranch_j10) fnBranch_j11) fnBranch_j12) fnBranch_j13) fnBranch_j14) fnBranch_j15) fnBranch_j16) fnBranch_j17) fnBranch_j18) fnBranch_j19) fnBranch_j20) fnBranch_j21) fnBranch_j22) fnBranch_j23) fnBranch_j24) fnBranch_j25) fnBranch_j26) fnBranch_j27) fnBranch_j28) fnBranch_j29) fnBranch_j30) fnBranch_j31
end Go.Proofs.YtfpepghmbeoanaaGreatDoor
