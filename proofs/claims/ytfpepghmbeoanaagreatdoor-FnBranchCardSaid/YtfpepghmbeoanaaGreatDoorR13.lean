/-
Closed facts of the row of FnBranch.
-/
import Derived.Test.YtfpepghmbeoanaaGreatDoorRows
import Derived.JoinedOf
set_option linter.unusedSimpArgs false
set_option linter.unusedVariables false
open Go
namespace Go.Proofs.YtfpepghmbeoanaaGreatDoor
theorem fnBranch_j0 : (fun (P : Program) (f : FuncId) (fn : Func) (s : ChangeSpec) (c : OpenClaim) => (c.wf (OpenSpec.ofChange s) : Bool)) Tryz.prog 5 Tryz.f5 Rows.fnBranchSpec Rows.fnBranchRow = true := by kernel_rfl
theorem fnBranch_j1 : (fun (P : Program) (f : FuncId) (fn : Func) (s : ChangeSpec) (c : OpenClaim) => (laidOutB P : Bool)) Tryz.prog 5 Tryz.f5 Rows.fnBranchSpec Rows.fnBranchRow = true := by kernel_rfl
theorem fnBranch_j2 : (fun (P : Program) (f : FuncId) (fn : Func) (s : ChangeSpec) (c : OpenClaim) => (mapsRowed P : Bool)) Tryz.prog 5 Tryz.f5 Rows.fnBranchSpec Rows.fnBranchRow = true := by kernel_rfl
theorem fnBranch_j3 : (fun (P : Program) (f : FuncId) (fn : Func) (s : ChangeSpec) (c : OpenClaim) => (fn.params.all (P.readableRec ·) : Bool)) Tryz.prog 5 Tryz.f5 Rows.fnBranchSpec Rows.fnBranchRow = true := by kernel_rfl
theorem fnBranch_j4 : (fun (P : Program) (f : FuncId) (fn : Func) (s : ChangeSpec) (c : OpenClaim) => (namedTie P c.named s.vars : Bool)) Tryz.prog 5 Tryz.f5 Rows.fnBranchSpec Rows.fnBranchRow = true := by kernel_rfl
theorem fnBranch_j5 : (fun (P : Program) (f : FuncId) (fn : Func) (s : ChangeSpec) (c : OpenClaim) => ((c.stops == []) : Bool)) Tryz.prog 5 Tryz.f5 Rows.fnBranchSpec Rows.fnBranchRow = true := by kernel_rfl
theorem fnBranch_j6 : (fun (P : Program) (f : FuncId) (fn : Func) (s : ChangeSpec) (c : OpenClaim) => ((P.stops == []) : Bool)) Tryz.prog 5 Tryz.f5 Rows.fnBranchSpec Rows.fnBranchRow = true := by kernel_rfl
theorem fnBranch_j7 : (fun (P : Program) (f : FuncId) (fn : Func) (s : ChangeSpec) (c : OpenClaim) => ((c.knobs == []) : Bool)) Tryz.prog 5 Tryz.f5 Rows.fnBranchSpec Rows.fnBranchRow = true := by kernel_rfl
theorem fnBranch_j8 : (fun (P : Program) (f : FuncId) (fn : Func) (s : ChangeSpec) (c : OpenClaim) => ((P.stopKnobs == []) : Bool)) Tryz.prog 5 Tryz.f5 Rows.fnBranchSpec Rows.fnBranchRow = true := by kernel_rfl
theorem fnBranch_j9 : (fun (P : Program) (f : FuncId) (fn : Func) (s : ChangeSpec) (c : OpenClaim) => ((c.inPlace == P.inPlace f) : Bool)) Tryz.prog 5 Tryz.f5 Rows.fnBranchSpec Rows.fnBranchRow = true := by kernel_rfl
end Go.Proofs.YtfpepghmbeoanaaGreatDoor
