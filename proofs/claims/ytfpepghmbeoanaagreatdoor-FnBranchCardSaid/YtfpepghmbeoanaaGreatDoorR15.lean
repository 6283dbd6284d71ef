/-
Closed facts of the row of FnBranch.
-/
import Derived.Test.YtfpepghmbeoanaaGreatDoorRows
import Derived.JoinedOf
set_option linter.unusedSimpArgs false
set_option linter.unusedVariables false
open Go
namespace Go.Proofs.YtfpepghmbeoanaaGreatDoor
theorem fnBranch_j21 : (fun (P : Program) (f : FuncId) (fn : Func) (s : ChangeSpec) (c : OpenClaim) => ((c.loopsOut == fn.resultTypes.toList.any (P.loopsFrom ·)) : Bool)) Tryz.prog 5 Tryz.f5 Rows.fnBranchSpec Rows.fnBranchRow = true := by kernel_rfl
theorem fnBranch_j22 : (fun (P : Program) (f : FuncId) (fn : Func) (s : ChangeSpec) (c : OpenClaim) => ((c.plainKeys == P.plainKeys) : Bool)) Tryz.prog 5 Tryz.f5 Rows.fnBranchSpec Rows.fnBranchRow = true := by kernel_rfl
theorem fnBranch_j23 : (fun (P : Program) (f : FuncId) (fn : Func) (s : ChangeSpec) (c : OpenClaim) => (c.shortTexts.isNone : Bool)) Tryz.prog 5 Tryz.f5 Rows.fnBranchSpec Rows.fnBranchRow = true := by kernel_rfl
theorem fnBranch_j24 : (fun (P : Program) (f : FuncId) (fn : Func) (s : ChangeSpec) (c : OpenClaim) => (P.stopsHeard : Bool)) Tryz.prog 5 Tryz.f5 Rows.fnBranchSpec Rows.fnBranchRow = true := by kernel_rfl
theorem fnBranch_j25 : (fun (P : Program) (f : FuncId) (fn : Func) (s : ChangeSpec) (c : OpenClaim) => (P.mayEnter : Bool)) Tryz.prog 5 Tryz.f5 Rows.fnBranchSpec Rows.fnBranchRow = true := by kernel_rfl
theorem fnBranch_j26 : (fun (P : Program) (f : FuncId) (fn : Func) (s : ChangeSpec) (c : OpenClaim) => ((c.lifted == P.liftsFinal) : Bool)) Tryz.prog 5 Tryz.f5 Rows.fnBranchSpec Rows.fnBranchRow = true := by kernel_rfl
theorem fnBranch_j27 : (fun (P : Program) (f : FuncId) (fn : Func) (s : ChangeSpec) (c : OpenClaim) => ((P.make == some c.make) : Bool)) Tryz.prog 5 Tryz.f5 Rows.fnBranchSpec Rows.fnBranchRow = true := by kernel_rfl
theorem fnBranch_j28 : (fun (P : Program) (f : FuncId) (fn : Func) (s : ChangeSpec) (c : OpenClaim) => ((c.kinds == (if c.domain.isEmpty then [] else fn.params.toList.map fun t => match P.underlying t with | some (.int k) => some k | _ => none)) : Bool)) Tryz.prog 5 Tryz.f5 Rows.fnBranchSpec Rows.fnBranchRow = true := by kernel_rfl
theorem fnBranch_j29 : (fun (P : Program) (f : FuncId) (fn : Func) (s : ChangeSpec) (c : OpenClaim) => ((c.pinned == c.pinnedBy) : Bool)) Tryz.prog 5 Tryz.f5 Rows.fnBranchSpec Rows.fnBranchRow = true := by kernel_rfl
theorem fnBranch_j30 : (fun (P : Program) (f : FuncId) (fn : Func) (s : ChangeSpec) (c : OpenClaim) => ((c.veiled == (fn.params.toList ++ s.plain.varTypes P ++ fn.resultTypes.toList).any (P.veiledRec ·)) : Bool)) Tryz.prog 5 Tryz.f5 Rows.fnBranchSpec Rows.fnBranchRow = true := by kernel_rfl
theorem fnBranch_j31 : (fun (P : Program) (f : FuncId) (fn : Func) (s : ChangeSpec) (c : OpenClaim) => (c.veiledFits P fn.params.toList (fn.params.toList ++ s.plain.varTypes P ++ fn.resultTypes.toList) : Bool)) Tryz.prog 5 Tryz.f5 Rows.fnBranchSpec Rows.fnBranchRow = true := by kernel_rfl
end Go.Proofs.YtfpepghmbeoanaaGreatDoor
