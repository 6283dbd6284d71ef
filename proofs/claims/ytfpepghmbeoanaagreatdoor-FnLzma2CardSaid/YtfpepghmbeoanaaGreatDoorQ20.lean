/-
Closed facts of the row of FnLzma2, joined.
-/
import Derived.Test.YtfpepghmbeoanaaGreatDoorQ17
import Derived.Test.YtfpepghmbeoanaaGreatDoorQ18
import Derived.Test.YtfpepghmbeoanaaGreatDoorQ19
set_option linter.unusedSimpArgs false
set_option linter.unusedVariables false
open Go
namespace Go.Proofs.YtfpepghmbeoanaaGreatDoor
theorem fnLzma2_and {a b : Bool} (h : a = true) (k : b = true) : (a && b) = true := by rw [h, k]; rfl
set_option maxRecDepth 100000 in
theorem fnLzma2_closed : joinedFacts Tryz.prog 4 Tryz.f4 Rows.fnLzma2Spec Rows.fnLzma2Row = true := by
  unfold joinedFacts
  exact fnLzma2_and (fnLzma2_and (fnLzma2_and (fnLzma2_and (fnLzma2_and (fnLzma2_and (fnLzma2_and (fnLzma2_and (fnLzma2_and (fnLzma2_and (fnLzma2_and (fnLzma2_and (fnLzma2_and (fnLzma2_and (fnLzma2_and (fnLzma2_and (fnLzma2_and (fnLzma2_and (fnLzma2_and (fnLzma2_and (fnLzma2_and (fnLzma2_and (fnLzma2_and (fnLzma2_and (fnLzma2_and (fnLzma2_and (fnLzma2_and (fnLzma2_and (fnLzma2_and (fnLzma2_and (fnLzma2_and (fnLzma2_j0) fnLzma2_j1) fnLzma2_j2) fnLzma2_j3) fnLzma2_j4) fnLzma2_j5) fnLzma2_j6) fnLzma2_j7) fnLzma2_j8) fnLzma2_j9) fnLzma2_j10) fnLzma2_j11) fnLzma2_j12) fnLzma2_j13) fnLzma2_j14) fnLzma2_j15) fnLzma2_j16) fnLzma2_j17) fnLzma2_j18) fnLzma2_j19) fnLzma2_j20) fnLzma2_j21) fnLzma2_j22) fnLzma2_j23) fnLzma2_j24) fnLzma2_j25) fnLzma2_j26) fnLzma2_j27) fnLzma2_j28) fnLzma2_j29) fnLzma2_j30) fnLzma2_j31
end Go.Proofs.YtfpepghmbeoanaaGreatDoor
