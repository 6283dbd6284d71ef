/-
Closed facts of the row of FnLzma, joined.
-/
import Derived.Test.YtfpepghmbeoanaaGreatDoorP17
import Derived.Test.YtfpepghmbeoanaaGreatDoorP18
import Derived.Test.YtfpepghmbeoanaaGreatDoorP19
set_option linter.unusedSimpArgs false
set_option linter.unusedVariables false
open Go
namespace Go.Proofs.YtfpepghmbeoanaaGreatDoor
theorem fnLzma_and {a b : Bool} (h : a = true) (k : b = true) : (a && b) = true := by rw [h, k]; rfl
set_option maxRecDepth 100000 in
theorem fnLzma_closed : joinedFacts Tryz.prog 3 Tryz.f3 Rows.fnLzmaSpec Rows.fnLzmaRow = true := by
  unfold joinedFacts
  exact fnLzma_and (fnLzma_and (fnLzma_and (fnLzma_and (fnLzma_and (fnLzma_and (fnLzma_and (fnLzma_and (fnLzma_and (fnLzma_and (fnLzma_and (fnLzma_and (fnLzma_and (fnLzma_and (fnLzma_and (fnLzma_and (fnLzma_and (fnLzma_and (fnLzma_and (fnLzma_and (fnLzma_and (fnLzma_and (fnLzma_and (fnLzma_and (fnLzma_and (fnLzma_and (fnLzma_and (fnLzma_and (fnLzma_and (fnLzma_and (fnLzma_and (fnLzma_j0) fnLzma_j1) fnLzma_j2) fnLzma_j3) fnLzma_j4) fnLzma_j5) fnLzma_j6) fnLzma_j7) fnLzma_j8) fnLzma_j9) fnLzma_j10) fnLzma_j11) fnLzma_j12) fnLzma_j13) fnLzma_j14) fnLzma_j15) fnLzma_j16) fnLzma_j17) fnLzma_j18) fnLzma_j19) fnLzma_j20) fnLzma_j21) fnLzma_j22) fnLzma_j23) fnLzma_j24) fnLzma_j25) fnLzma_j26) fnLzma_j27) fnLzma_j28) fnLzma_j29) fnLzma_j30) fnLzma_j31
end Go.Proofs.YtfpepghmbeoanaaGreatDoor
