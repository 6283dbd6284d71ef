/-
FnLzma2: for every text of at most 3000 bytes, every way, every length of a piece and every list of at most 100 marks, the bytes that the reference lays in pieces, packed or not, are unpacked by the program to the same bytes; other inputs are not asked about. The card of the row, tied to the program's text. Conditions: none beyond the given statement's own.
-/
import Derived.Test.YtfpepghmbeoanaaGreatDoorQ16
import Derived.Test.YtfpepghmbeoanaaGreatDoorQ20
import Derived.Test.YtfpepghmbeoanaaGreatDoorTie
import Derived.Test.YtfpepghmbeoanaaGreatDoorCards
import Derived.SevenTiedAt
set_option linter.unusedSimpArgs false
set_option linter.unusedVariables false
open Go Go.RowKit
namespace Go.Proofs.YtfpepghmbeoanaaGreatDoor
open Go.ChangeShapes Go.WideShapes
theorem fnLzma2_named : Tryz.prog.funcNamed Rows.fnLzma2Row.func = some 4 := by kernel_rfl
theorem fnLzma2_inst : Tryz.f4.isInstance Tryz.prog Rows.fnLzma2Row.origin Rows.fnLzma2Row.targs := of_decide_eq_true (by kernel_rfl)
theorem fnLzma2_wrap : Tryz.f4.isWrapper Tryz.prog Rows.fnLzma2Row.wrapper Rows.fnLzma2Row.mainSum := by unfold Func.isWrapper; rw [if_neg (of_decide_eq_false (by kernel_rfl))]; exact ⟨rfl, rfl⟩
theorem fnLzma2_laidH (w : World) : laidMetH Tryz.prog Rows.fnLzma2Row.laid w = laidMet Tryz.prog Rows.fnLzma2Row.laid w := by
  unfold laidMetH
  rw [show (Rows.fnLzma2Row.laid.filter fun x => x.2.handleName?.isSome) = [] by kernel_rfl]
set_option maxRecDepth 100000 in
theorem fnLzma2_open (os : Os) (started : os.Started) (H : Type) (enc : TypeId × Value → H) :
    ReturnsInHanded Rows.fnLzma2Row.assume Tryz.pinned.checked os 4 .any (Rows.fnLzma2Row.pre enc Tryz.pinned.checked.prog Tryz.f4 (OpenSpec.ofChange Rows.fnLzma2Spec)) (Rows.fnLzma2Spec.post enc Tryz.pinned.checked.prog Tryz.f4 Rows.fnLzma2Row.apart Rows.fnLzma2Row.fresh Rows.fnLzma2Row.handsOn Rows.fnLzma2Row.again) := by
  have h := fnLzma2_lifted os started H enc
  have e : Rows.fnLzma2Row.pre enc Tryz.prog Tryz.f4 (OpenSpec.ofChange Rows.fnLzma2Spec) = fun w args => (Rows.fnLzma2Spec.pre enc Tryz.prog Tryz.f4 [] false w args ∧ laidMet Tryz.prog Rows.fnLzma2Row.laid w) ∧ sizedMet enc Tryz.prog Tryz.f4 (OpenSpec.ofChange Rows.fnLzma2Spec) false w args := by
    funext w args
    rw [← fnLzma2_laidH w]
    rfl
  show ReturnsInHanded {} Tryz.checked os 4 .any (Rows.fnLzma2Row.pre enc Tryz.prog Tryz.f4 (OpenSpec.ofChange Rows.fnLzma2Spec)) (Rows.fnLzma2Spec.post enc Tryz.prog Tryz.f4 false true false false)
  rw [e]
  exact h
set_option maxRecDepth 100000 in
theorem fnLzma2_holds : Rows.FnLzma2Said :=
  OpenClaim.holds_of_wide 4 Tryz.f4 rfl rfl rfl rfl rfl rfl rfl ⟨rfl, rfl, rfl, rfl, rfl⟩ rfl rfl rfl rfl rfl fnLzma2_named Tryz.func4 fnLzma2_closed
    fnLzma2_inst fnLzma2_wrap (fun os started H enc _ => fnLzma2_open os started H enc)
set_option maxRecDepth 100000 in
theorem fnLzma2_card : Rows.FnLzma2CardSaid :=
  Claim7.holds_tied_plain_at .later [] [.data, .data, .data, .sentinel, .sentinel, .sentinel, .sentinel, .sentinel, .sentinel, .sentinel, .sentinel, .sentinel, .sentinel, .sentinel, .sentinel, .sentinel, .sentinel, .sentinel, .sentinel, .sentinel] true (true, "676a4a4195a3e117174874cc6c84ea2e4bd974075cecc811ca7e0750561db798") true
    fnLzma2_holds (fun _ h => by cases h) (by kernel_rfl) (fun _ h => by cases h) fnLzma2_row_tie rfl ⟨rfl, rfl⟩ (by kernel_rfl) rfl
    (fun f fn hf hfn => by
      obtain rfl : f = 4 := Option.some.inj ((show Tryz.prog.funcNamed "loop.example/pub-g03247/laws.FnLzma2" = some 4 by kernel_rfl).symm.trans hf) |>.symm
      obtain rfl : fn = Tryz.f4 := (Option.some.inj (Tryz.func4.symm.trans hfn)).symm
      exact ⟨by kernel_rfl, fun j t ht => by
        rw [fnLzma2_params] at ht
        rcases j with _ | _ | _ | _ | j
        · obtain rfl : t = 22 := by simpa using ht.symm
          exact (show Tryz.prog.wantsStandIn 22 = false by kernel_rfl)
        · obtain rfl : t = 24 := by simpa using ht.symm
          exact (show Tryz.prog.wantsStandIn 24 = false by kernel_rfl)
        · obtain rfl : t = 5 := by simpa using ht.symm
          exact (show Tryz.prog.wantsStandIn 5 = false by kernel_rfl)
        · obtain rfl : t = 33 := by simpa using ht.symm
          exact (show Tryz.prog.wantsStandIn 33 = false by kernel_rfl)
        · simp at ht⟩)
    (by kernel_rfl)
#print axioms fnLzma2_card
end Go.Proofs.YtfpepghmbeoanaaGreatDoor
