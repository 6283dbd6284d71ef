/-
FnBranch: for every kind of filter (x86, PPC, ARM, SPARC) and every text of at most 3000 bytes, the bytes in which the reference turned distances into places are turned back by the program's reader to the same bytes; longer texts are not asked about. The card of the row, tied to the program's text. Conditions: none beyond the given statement's own.
-/
import Derived.Test.YtfpepghmbeoanaaGreatDoorR12
import Derived.Test.YtfpepghmbeoanaaGreatDoorR16
import Derived.Test.YtfpepghmbeoanaaGreatDoorTie
import Derived.Test.YtfpepghmbeoanaaGreatDoorCards
import Derived.SevenTiedAt
set_option linter.unusedSimpArgs false
set_option linter.unusedVariables false
open Go Go.RowKit
namespace Go.Proofs.YtfpepghmbeoanaaGreatDoor
open Go.ChangeShapes Go.WideShapes
theorem fnBranch_named : Tryz.prog.funcNamed Rows.fnBranchRow.func = some 5 := by kernel_rfl
theorem fnBranch_inst : Tryz.f5.isInstance Tryz.prog Rows.fnBranchRow.origin Rows.fnBranchRow.targs := of_decide_eq_true (by kernel_rfl)
theorem fnBranch_wrap : Tryz.f5.isWrapper Tryz.prog Rows.fnBranchRow.wrapper Rows.fnBranchRow.mainSum := by unfold Func.isWrapper; rw [if_neg (of_decide_eq_false (by kernel_rfl))]; exact ⟨rfl, rfl⟩
theorem fnBranch_laidH (w : World) : laidMetH Tryz.prog Rows.fnBranchRow.laid w = laidMet Tryz.prog Rows.fnBranchRow.laid w := by
  unfold laidMetH
  rw [show (Rows.fnBranchRow.laid.filter fun x => x.2.handleName?.isSome) = [] by kernel_rfl]
set_option maxRecDepth 100000 in
theorem fnBranch_open (os : Os) (started : os.Started) (H : Type) (enc : TypeId × Value → H) :
    ReturnsInHanded Rows.fnBranchRow.assume Tryz.pinned.checked os 5 .any (Rows.fnBranchRow.pre enc Tryz.pinned.checked.prog Tryz.f5 (OpenSpec.ofChange Rows.fnBranchSpec)) (Rows.fnBranchSpec.post enc Tryz.pinned.checked.prog Tryz.f5 Rows.fnBranchRow.apart Rows.fnBranchRow.fresh Rows.fnBranchRow.handsOn Rows.fnBranchRow.again) := by
  have h := fnBranch_lifted os started H enc
  have e : Rows.fnBranchRow.pre enc Tryz.prog Tryz.f5 (OpenSpec.ofChange Rows.fnBranchSpec) = fun w args => (Rows.fnBranchSpec.pre enc Tryz.prog Tryz.f5 [] false w args ∧ laidMet Tryz.prog Rows.fnBranchRow.laid w) ∧ sizedMet enc Tryz.prog Tryz.f5 (OpenSpec.ofChange Rows.fnBranchSpec) false w args := by
    funext w args
    rw [← fnBranch_laidH w]
    rfl
  show ReturnsInHanded {} Tryz.checked os 5 .any (Rows.fnBranchRow.pre enc Tryz.prog Tryz.f5 (OpenSpec.ofChange Rows.fnBranchSpec)) (Rows.fnBranchSpec.post enc Tryz.prog Tryz.f5 false true false false)
  rw [e]
  exact h
set_option maxRecDepth 100000 in
theorem fnBranch_holds : Rows.FnBranchSaid :=
  OpenClaim.holds_of_wide 5 Tryz.f5 rfl rfl rfl rfl rfl rfl rfl ⟨rfl, rfl, rfl, rfl, rfl⟩ rfl rfl rfl rfl rfl fnBranch_named Tryz.func5 fnBranch_closed
    fnBranch_inst fnBranch_wrap (fun os started H enc _ => fnBranch_open os started H enc)
set_option maxRecDepth 100000 in
theorem fnBranch_card : Rows.FnBranchCardSaid :=
  Claim7.holds_tied_plain_at .later [] [.data, .data, .data, .sentinel, .sentinel, .sentinel, .sentinel, .sentinel, .sentinel, .sentinel, .sentinel, .sentinel, .sentinel, .sentinel, .sentinel, .sentinel, .sentinel, .sentinel, .sentinel, .sentinel] true (true, "676a4a4195a3e117174874cc6c84ea2e4bd974075cecc811ca7e0750561db798") true
    fnBranch_holds (fun _ h => by cases h) (by kernel_rfl) (fun _ h => by cases h) fnBranch_row_tie rfl ⟨rfl, rfl⟩ (by kernel_rfl) rfl
    (fun f fn hf hfn => by
      obtain rfl : f = 5 := Option.some.inj ((show Tryz.prog.funcNamed "loop.example/pub-g03247/laws.FnBranch" = some 5 by kernel_rfl).symm.trans hf) |>.symm
      obtain rfl : fn = Tryz.f5 := (Option.some.inj (Tryz.func5.symm.trans hfn)).symm
      exact ⟨by kernel_rfl, fun j t ht => by
        rw [fnBranch_params] at ht
        rcases j with _ | _ | j
        · obtain rfl : t = 5 := by simpa using ht.symm
          exact (show Tryz.prog.wantsStandIn 5 = false by kernel_rfl)
        · obtain rfl : t = 22 := by simpa using ht.symm
          exact (show Tryz.prog.wantsStandIn 22 = false by kernel_rfl)
        · simp at ht⟩)
    (by kernel_rfl)
#print axioms fnBranch_card
end Go.Proofs.YtfpepghmbeoanaaGreatDoor
