/-
Closed facts of the row of FnLzma2.
-/
import Derived.Test.YtfpepghmbeoanaaGreatDoorRows
import Derived.JoinedOf
set_option linter.unusedSimpArgs false
set_option linter.unusedVariables false
open Go
namespace Go.Proofs.YtfpepghmbeoanaaGreatDoor
theorem fnLzma2_j0 : (fun (P : Program) (f : FuncId) (fn : Func) (s : ChangeSpec) (c : OpenClaim) => (c.wf (OpenSpec.ofChange s) : Bool)) Tryz.prog 4 Tryz.f4 Rows.fnLzma2Spec Rows.fnLzma2Row = true := by kernel_rfl
theorem fnLzma2_j1 : (fun (P : Program) (f : FuncId) (fn : Func) (s : ChangeSpec) (c : OpenClaim) => (laidOutB P : Bool)) Tryz.prog 4 Tryz.f4 Rows.fnLzma2Spec Rows.fnLzma2Row = true := by kernel_rfl
theorem fnLzma2_j2 : (fun (P : Program) (f : FuncId) (fn : Func) (s : ChangeSpec) (c : OpenClaim) => (mapsRowed P : Bool)) Tryz.prog 4 Tryz.f4 Rows.fnLzma2Spec Rows.fnLzma2Row = true := by kernel_rfl
theorem fnLzma2_j3 : (fun (P : Program) (f : FuncId) (fn : Func) (s : ChangeSpec) (c : OpenClaim) => (fn.params.all (P.readableRec ·) : Bool)) Tryz.prog 4 Tryz.f4 Rows.fnLzma2Spec Rows.fnLzma2Row = true := by kernel_rfl
theorem fnLzma2_j4 : (fun (P : Program) (f : FuncId) (fn : Func) (s : ChangeSpec) (c : OpenClaim) => (namedTie P c.named s.vars : Bool)) Tryz.prog 4 Tryz.f4 Rows.fnLzma2Spec Rows.fnLzma2Row = true := by kernel_rfl
theorem fnLzma2_j5 : (fun (P : Program) (f : FuncId) (fn : Func) (s : ChangeSpec) (c : OpenClaim) => ((c.stops == []) : Bool)) Tryz.prog 4 Tryz.f4 Rows.fnLzma2Spec Rows.fnLzma2Row = true := by kernel_rfl
theorem fnLzma2_j6 : (fun (P : Program) (f : FuncId) (fn : Func) (s : ChangeSpec) (c : OpenClaim) => ((P.stops == []) : Bool)) Tryz.prog 4 Tryz.f4 Rows.fnLzma2Spec Rows.fnLzma2Row = true := by kernel_rfl
theorem fnLzma2_j7 : (fun (P : Program) (f : FuncId) (fn : Func) (s : ChangeSpec) (c : OpenClaim) => ((c.knobs == []) : Bool)) Tryz.prog 4 Tryz.f4 Rows.fnLzma2Spec Rows.fnLzma2Row = true := by kernel_rfl
theorem fnLzma2_j8 : (fun (P : Program) (f : FuncId) (fn : Func) (s : ChangeSpec) (c : OpenClaim) => ((P.stopKnobs == []) : Bool)) Tryz.prog 4 Tryz.f4 Rows.fnLzma2Spec Rows.fnLzma2Row = true := by kernel_rfl
theorem fnLzma2_j9 : (fun (P : Program) (f : FuncId) (fn : Func) (s : ChangeSpec) (c : OpenClaim) => ((c.inPlace == P.inPlace f) : Bool)) Tryz.prog 4 Tryz.f4 Rows.fnLzma2Spec Rows.fnLzma2Row = true := by kernel_rfl
end Go.Proofs.YtfpepghmbeoanaaGreatDoor
