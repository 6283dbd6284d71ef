/-
Closed facts of the row of FnBranch.
-/
import Derived.Test.YtfpepghmbeoanaaGreatDoorRows
import Derived.JoinedOf
set_option linter.unusedSimpArgs false
set_option linter.unusedVariables false
open Go
namespace Go.Proofs.YtfpepghmbeoanaaGreatDoor
theorem fnBranch_j10 : (fun (P : Program) (f : FuncId) (fn : Func) (s : ChangeSpec) (c : OpenClaim) => ((c.unfollowed == P.unfollowed f) : Bool)) Tryz.prog 5 Tryz.f5 Rows.fnBranchSpec Rows.fnBranchRow = true := by kernel_rfl
theorem fnBranch_j11 : (fun (P : Program) (f : FuncId) (fn : Func) (s : ChangeSpec) (c : OpenClaim) => ((c.recurses == P.recurses f) : Bool)) Tryz.prog 5 Tryz.f5 Rows.fnBranchSpec Rows.fnBranchRow = true := by kernel_rfl
theorem fnBranch_j12 : (fun (P : Program) (f : FuncId) (fn : Func) (s : ChangeSpec) (c : OpenClaim) => ((c.named == P.varsNamed f) : Bool)) Tryz.prog 5 Tryz.f5 Rows.fnBranchSpec Rows.fnBranchRow = true := by kernel_rfl
theorem fnBranch_j13 : (fun (P : Program) (f : FuncId) (fn : Func) (s : ChangeSpec) (c : OpenClaim) => ((c.maps == (fn.params.toList ++ s.plain.varTypes P).any (P.mapsRec ·)) : Bool)) Tryz.prog 5 Tryz.f5 Rows.fnBranchSpec Rows.fnBranchRow = true := by kernel_rfl
theorem fnBranch_j14 : (fun (P : Program) (f : FuncId) (fn : Func) (s : ChangeSpec) (c : OpenClaim) => ((c.ifaces == (fn.params.toList ++ s.plain.varTypes P).any (P.ifacesRec ·)) : Bool)) Tryz.prog 5 Tryz.f5 Rows.fnBranchSpec Rows.fnBranchRow = true := by kernel_rfl
theorem fnBranch_j15 : (fun (P : Program) (f : FuncId) (fn : Func) (s : ChangeSpec) (c : OpenClaim) => ((c.mapsOut == P.mapsAmong fn.resultTypes.toList) : Bool)) Tryz.prog 5 Tryz.f5 Rows.fnBranchSpec Rows.fnBranchRow = true := by kernel_rfl
theorem fnBranch_j16 : (fun (P : Program) (f : FuncId) (fn : Func) (s : ChangeSpec) (c : OpenClaim) => ((c.loops == (fn.params.toList ++ s.plain.varTypes P).any (P.loopsFrom ·)) : Bool)) Tryz.prog 5 Tryz.f5 Rows.fnBranchSpec Rows.fnBranchRow = true := by kernel_rfl
theorem fnBranch_j17 : (fun (P : Program) (f : FuncId) (fn : Func) (s : ChangeSpec) (c : OpenClaim) => ((c.wideKeys == (fn.params.toList ++ s.plain.varTypes P ++ fn.resultTypes.toList).any (P.wideKeysFrom ·)) : Bool)) Tryz.prog 5 Tryz.f5 Rows.fnBranchSpec Rows.fnBranchRow = true := by kernel_rfl
theorem fnBranch_j18 : (fun (P : Program) (f : FuncId) (fn : Func) (s : ChangeSpec) (c : OpenClaim) => (s.vars.all (P.varReadable ·) : Bool)) Tryz.prog 5 Tryz.f5 Rows.fnBranchSpec Rows.fnBranchRow = true := by kernel_rfl
theorem fnBranch_j19 : (fun (P : Program) (f : FuncId) (fn : Func) (s : ChangeSpec) (c : OpenClaim) => (fn.resultTypes.all (fun t => P.readableRec t && decide (t < P.types.size)) : Bool)) Tryz.prog 5 Tryz.f5 Rows.fnBranchSpec Rows.fnBranchRow = true := by kernel_rfl
theorem fnBranch_j20 : (fun (P : Program) (f : FuncId) (fn : Func) (s : ChangeSpec) (c : OpenClaim) => ((c.ifacesOut == fn.resultTypes.toList.any (P.ifacesRec ·)) : Bool)) Tryz.prog 5 Tryz.f5 Rows.fnBranchSpec Rows.fnBranchRow = true := by kernel_rfl
end Go.Proofs.YtfpepghmbeoanaaGreatDoor
